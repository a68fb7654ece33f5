import PyProof.Rows.All
import Wide.All
import OpenK.AllK
import Wide.FinOn
import Lean
import PySem.Challenge.RW_tv0031_01
open PySem PySem.W PySem.Calls PyProof.Rows
set_option Elab.async false
set_option maxRecDepth 100000
set_option maxHeartbeats 8000000 in
open_top Mine.hd for PySem.Challenge.rw_tv0031_01
set_option maxHeartbeats 4000000

/-! part F1 -/
namespace Mine

/-! The state: a ghost of frozen objects, the frames on the stack, the objects that may still turn. -/

abbrev Gh := Addr → Option Obj
def Gh.Le (γ γ' : Gh) : Prop := ∀ a o, γ a = some o → γ' a = some o
theorem Gh.Le.rfl {γ : Gh} : γ.Le γ := fun _ _ e => e
theorem Gh.Le.trans {γ γ' γ'' : Gh} (x : γ.Le γ') (y : γ'.Le γ'') : γ.Le γ'' := fun a o e => y a o (x a o e)
def Gh.put (γ : Gh) (a : Addr) (o : Obj) : Gh := fun b => if b = a then some o else γ b
theorem Gh.put_self {γ : Gh} {a : Addr} {o : Obj} : γ.put a o a = some o := if_pos _root_.rfl
theorem Gh.put_ne {γ : Gh} {a b : Addr} {o : Obj} (h : b ≠ a) : γ.put a o b = γ b := if_neg h
theorem Gh.le_put {γ : Gh} {a : Addr} {o : Obj} (h : γ a = none) : γ.Le (γ.put a o) := fun b o' e => by
  have : b ≠ a := fun q => by rw [q, h] at e; cases e
  rw [Gh.put_ne this]; exact e

abbrev MP := Obj → Prop
def Lst (its : Array Value) : MP := fun o => ∃ n, o = listOf its n
def Cel (v : Option Value) : MP := fun o => o.data = .cell v
def LIt (l : Addr) (i : Nat) : MP := fun o => o.cls = .type "list_iterator" ∧ o.data = .fields #[.ref l, .int i 0]
def NsP (m : Str → Option Value) : MP := fun o => ∃ es ep, o.data = .dict es ep ∧ StrKeys es ∧ ∀ name, nsFind es name = m name
theorem nsP_of {h : Heap} {a : Addr} {m : Str → Option Value} : h.Ns a m ↔ ∃ o, h.get? a = some o ∧ NsP m o :=
  ⟨fun ⟨o, es, ep, ho, r⟩ => ⟨o, ho, es, ep, r⟩, fun ⟨o, ho, es, ep, r⟩ => ⟨o, es, ep, ho, r⟩⟩

abbrev Fram := Env × (Str → Option Value)

structure St (base : Heap) (fr : List Fram) (γ : Gh) (mu : List (Addr × MP)) (h : Heap) : Prop where
  bs : ∀ a o, base.get? a = some o → γ a = some o
  sub : ∀ a o, γ a = some o → h.get? a = some o
  frs : ∀ p ∈ fr, (p.1.scope.kind = .function ∧ p.1.frame = some p.1.locals) ∧ h.Ns p.1.locals p.2 ∧ γ p.1.locals = none
  mus : ∀ p ∈ mu, (∃ o, h.get? p.1 = some o ∧ p.2 o) ∧ γ p.1 = none
  nd : (fr.map (fun p => p.1.locals) ++ mu.map (fun p => p.1)).Nodup

section
variable {base : Heap} {fr : List Fram} {γ γ' : Gh} {mu : List (Addr × MP)} {h h' : Heap} {a : Addr} {P P' : MP} {env : Env} {m m' : Str → Option Value}

theorem St.stays (S : St base fr γ mu h) : base.StaysIn h := fun a o e => S.sub a o (S.bs a o e)
theorem St.none_fresh (S : St base fr γ mu h) (e : h.get? a = none) : γ a = none := by
  cases q : γ a with
  | none => rfl
  | some o => have := S.sub a o q; rw [e] at this; cases this
theorem St.top (S : St base ((env, m) :: fr) γ mu h) : h.Ns env.locals m := (S.frs _ (.head _)).2.1

/-- all that stands keeps standing -/
theorem St.grow (S : St base fr γ mu h) (k : ∀ b o, h.get? b = some o → h'.get? b = some o) : St base fr γ mu h' :=
  ⟨S.bs, fun a o e => k _ _ (S.sub a o e), fun p hp => ⟨(S.frs p hp).1, (S.frs p hp).2.1.keeps k, (S.frs p hp).2.2⟩,
    fun p hp => by obtain ⟨⟨o, ho, q⟩, z⟩ := S.mus p hp; exact ⟨⟨o, k _ _ ho, q⟩, z⟩, S.nd⟩

theorem St.mem_apart (S : St base fr γ mu h) {p : Addr × MP} (hp : p ∈ mu) {f : Fram} (hf : f ∈ fr) : f.1.locals ≠ p.1 := by
  have := (List.nodup_append.mp S.nd).2.2
  exact this _ (List.mem_map_of_mem hf) _ (List.mem_map_of_mem hp)

/-- one of the turning objects turns -/
theorem St.set {i : Nat} (S : St base fr γ mu h) (hi : mu[i]? = some (a, P)) (k : ∀ b o, b ≠ a → h.get? b = some o → h'.get? b = some o)
    (hn : ∃ o, h'.get? a = some o ∧ P' o) : St base fr γ (mu.set i (a, P')) h' := by
  have hmem : (a, P) ∈ mu := List.mem_of_getElem? hi
  have hil : i < mu.length := (List.getElem?_eq_some_iff.mp hi).1
  have hie : mu[i] = (a, P) := (List.getElem?_eq_some_iff.mp hi).2
  have hmap : (mu.set i (a, P')).map (fun p => p.1) = mu.map (fun p => p.1) := by
    rw [List.map_set]
    apply List.ext_getElem?
    intro j
    rw [List.getElem?_set]
    by_cases hj : i = j
    · subst hj
      simp [hil, hie]
    · simp [hj]
  refine ⟨S.bs, fun b o e => k b o (fun q => ?_) (S.sub b o e), fun p hp => ⟨(S.frs p hp).1, ?_, (S.frs p hp).2.2⟩, fun p hp => ?_, by rw [hmap]; exact S.nd⟩
  · have := (S.mus _ hmem).2
    rw [← q, e] at this; cases this
  · obtain ⟨o, es, ep, ho, r⟩ := (S.frs p hp).2.1
    exact ⟨o, es, ep, k _ _ (S.mem_apart hmem hp) ho, r⟩
  · obtain ⟨j, hj, hpj⟩ := List.mem_iff_getElem.mp hp
    rw [List.getElem_set] at hpj
    by_cases q : i = j
    · rw [if_pos q] at hpj
      subst hpj
      exact ⟨hn, (S.mus _ hmem).2⟩
    · rw [if_neg q] at hpj
      have hj' : j < mu.length := by rw [List.length_set] at hj; exact hj
      have hm : p ∈ mu := hpj ▸ List.getElem_mem hj'
      obtain ⟨⟨o, ho, r⟩, z⟩ := S.mus p hm
      refine ⟨⟨o, k _ _ (fun e => ?_) ho, r⟩, z⟩
      have nd2 := (List.nodup_append.mp S.nd).2.1
      have e1 : (mu.map (fun p => p.1))[i]'(by simpa using hil) = (mu.map (fun p => p.1))[j]'(by simpa using hj') := by
        simp [hie, hpj, e]
      have nd3 := List.pairwise_iff_getElem.mp nd2
      rcases Nat.lt_or_gt_of_ne q with lt | lt
      · exact nd3 i j (by simpa using hil) (by simpa using hj') lt e1
      · exact nd3 j i (by simpa using hj') (by simpa using hil) lt e1.symm

theorem St.setHead (S : St base fr γ ((a, P) :: mu) h) (k : ∀ b o, b ≠ a → h.get? b = some o → h'.get? b = some o)
    (hn : ∃ o, h'.get? a = some o ∧ P' o) : St base fr γ ((a, P') :: mu) h' := S.set (i := 0) rfl k hn

/-- the frame on top turns -/
theorem St.setTop (S : St base ((env, m) :: fr) γ mu h) (k : ∀ b o, b ≠ env.locals → h.get? b = some o → h'.get? b = some o)
    (hn : h'.Ns env.locals m') : St base ((env, m') :: fr) γ mu h' := by
  have hL := S.frs (env, m) (.head _)
  have nd := S.nd
  refine ⟨S.bs, fun b o e => k b o (fun q => ?_) (S.sub b o e), fun p hp => ?_, fun p hp => ?_, nd⟩
  · have := hL.2.2; rw [← q, e] at this; cases this
  · rcases List.mem_cons.mp hp with rfl | hp'
    · exact ⟨hL.1, hn, hL.2.2⟩
    · have X := S.frs p (.tail _ hp')
      refine ⟨X.1, ?_, X.2.2⟩
      obtain ⟨o, es, ep, ho, r⟩ := X.2.1
      refine ⟨o, es, ep, k _ _ (fun q => ?_) ho, r⟩
      simp only [List.map_cons, List.cons_append, List.nodup_cons, List.mem_append, List.mem_map, not_or, not_exists, not_and] at nd
      exact nd.1.1 p hp' q
  · obtain ⟨⟨o, ho, r⟩, z⟩ := S.mus p hp
    refine ⟨⟨o, k _ _ (fun q => ?_) ho, r⟩, z⟩
    exact S.mem_apart hp (.head _) q.symm

/-- a new turning object -/
theorem St.new {o : Obj} (S : St base fr γ mu h) (k : ∀ b o, h.get? b = some o → h'.get? b = some o) (hf : h.get? a = none) (ho : h'.get? a = some o) (hP : P o) :
    St base fr γ ((a, P) :: mu) h' := by
  have G := S.grow k
  refine ⟨S.bs, G.sub, G.frs, fun p hp => ?_, ?_⟩
  · rcases List.mem_cons.mp hp with rfl | hp'
    · exact ⟨⟨o, ho, hP⟩, S.none_fresh hf⟩
    · exact G.mus p hp'
  · refine List.nodup_append.mpr ⟨(List.nodup_append.mp S.nd).1, ?_, ?_⟩
    · rw [List.map_cons, List.nodup_cons]
      refine ⟨fun q => ?_, (List.nodup_append.mp S.nd).2.1⟩
      obtain ⟨p, hp, e⟩ := List.mem_map.mp q
      obtain ⟨⟨o', ho', _⟩, _⟩ := S.mus p hp
      rw [e, hf] at ho'; cases ho'
    · intro x hx y hy e
      subst e
      rw [List.map_cons] at hy
      rcases List.mem_cons.mp hy with e | hy'
      · obtain ⟨p, hp, e'⟩ := List.mem_map.mp hx
        obtain ⟨o', _, _, ho', _⟩ := (S.frs p hp).2.1
        dsimp only at e e'
        rw [e', e, hf] at ho'; cases ho'
      · exact (List.nodup_append.mp S.nd).2.2 _ hx _ hy' rfl

/-- a turning object is let go of -/
theorem St.drop {p : Addr × MP} (S : St base fr γ (p :: mu) h) : St base fr γ mu h :=
  ⟨S.bs, S.sub, S.frs, fun q hq => S.mus q (.tail _ hq), by
    have := S.nd
    rw [List.map_cons, List.nodup_append] at this
    refine List.nodup_append.mpr ⟨this.1, (List.nodup_cons.mp this.2.1).2, fun x hx y hy => this.2.2 x hx y (.tail _ hy)⟩⟩

theorem St.perm {mu' : List (Addr × MP)} (S : St base fr γ mu h) (hp : mu.Perm mu') : St base fr γ mu' h :=
  ⟨S.bs, S.sub, S.frs, fun q hq => S.mus q (hp.mem_iff.mpr hq), (List.Perm.append_left _ (hp.map _)).nodup_iff.mp S.nd⟩

/-- a new frame -/
theorem St.push (S : St base fr γ mu h) (k : ∀ b o, h.get? b = some o → h'.get? b = some o) (hf : h.get? env.locals = none) (hn : h'.Ns env.locals m)
    (hk : env.scope.kind = .function) (hfr : env.frame = some env.locals) : St base ((env, m) :: fr) γ mu h' := by
  have G := S.grow k
  refine ⟨S.bs, G.sub, fun p hp => ?_, G.mus, ?_⟩
  · rcases List.mem_cons.mp hp with rfl | hp'
    · exact ⟨⟨hk, hfr⟩, hn, S.none_fresh hf⟩
    · exact G.frs p hp'
  · simp only [List.map_cons, List.cons_append, List.nodup_cons, List.mem_append, List.mem_map, not_or, not_exists, not_and]
    refine ⟨⟨fun p hp e => ?_, fun p hp e => ?_⟩, S.nd⟩
    · obtain ⟨o', _, _, ho', _⟩ := (S.frs p hp).2.1
      rw [e, hf] at ho'; cases ho'
    · obtain ⟨⟨o', ho', _⟩, _⟩ := S.mus p hp
      rw [e, hf] at ho'; cases ho'

theorem St.pop {p : Fram} (S : St base (p :: fr) γ mu h) : St base fr γ mu h :=
  ⟨S.bs, S.sub, fun q hq => S.frs q (.tail _ hq), S.mus, by
    have := S.nd
    rw [List.map_cons, List.cons_append, List.nodup_cons] at this
    exact this.2⟩

/-- a turning object is frozen -/
theorem St.freeze (S : St base fr γ ((a, P) :: mu) h) : ∃ o, P o ∧ γ a = none ∧ γ.Le (γ.put a o) ∧ St base fr (γ.put a o) mu h := by
  obtain ⟨⟨o, ho, hP⟩, hz⟩ := S.mus (a, P) (.head _)
  have L := Gh.le_put (o := o) hz
  refine ⟨o, hP, hz, L, fun b o' e => L b o' (S.bs b o' e), fun b o' e => ?_, fun p hp => ⟨(S.frs p hp).1, (S.frs p hp).2.1, ?_⟩, fun p hp => ⟨(S.mus p (.tail _ hp)).1, ?_⟩, S.drop.nd⟩
  · by_cases q : b = a
    · subst q; rw [Gh.put_self] at e; cases e; exact ho
    · rw [Gh.put_ne q] at e; exact S.sub b o' e
  · rw [Gh.put_ne (S.mem_apart (.head _) hp)]; exact (S.frs p hp).2.2
  · have nd := (List.nodup_append.mp S.nd).2.1
    rw [List.map_cons, List.nodup_cons] at nd
    rw [Gh.put_ne fun q => nd.1 (by have := List.mem_map_of_mem (f := fun p : Addr × MP => p.1) hp; rw [q] at this; exact this)]; exact (S.mus p (.tail _ hp)).2

/-- a frozen object that is new -/
theorem St.newFrozen {o : Obj} (S : St base fr γ mu h) (k : ∀ b o, h.get? b = some o → h'.get? b = some o) (hf : h.get? a = none) (ho : h'.get? a = some o) :
    ∃ γ', γ.Le γ' ∧ γ' a = some o ∧ St base fr γ' mu h' := by
  obtain ⟨o', e, _, L, S'⟩ := (S.new (P := fun x => x = o) k hf ho rfl).freeze
  subst e
  exact ⟨_, L, Gh.put_self, S'⟩
end

/-! What the ghost says of lists and of data -/
def GL (γ : Gh) (a : Addr) (its : Array Value) : Prop := ∃ o, γ a = some o ∧ Lst its o
theorem GL.le {γ γ' : Gh} {a : Addr} {its : Array Value} (x : GL γ a its) (l : γ.Le γ') : GL γ' a its := let ⟨o, ho, r⟩ := x; ⟨o, l _ _ ho, r⟩
def Tpl (its : Array Value) : MP := fun o => ∃ n, o = { cls := .type "tuple", data := .seq its n }
def GT (γ : Gh) (a : Addr) (its : Array Value) : Prop := ∃ o, γ a = some o ∧ Tpl its o
theorem GT.le {γ γ' : Gh} {a : Addr} {its : Array Value} (x : GT γ a its) (l : γ.Le γ') : GT γ' a its := let ⟨o, ho, r⟩ := x; ⟨o, l _ _ ho, r⟩
theorem St.isList {base : Heap} {fr : List Fram} {γ : Gh} {mu : List (Addr × MP)} {h : Heap} {a : Addr} {its : Array Value} (S : St base fr γ mu h) (x : GL γ a its) : h.IsList a its :=
  let ⟨o, ho, n, e⟩ := x; ⟨o, S.sub _ _ ho, e ▸ rfl, n, e ▸ rfl⟩
theorem St.isTup {base : Heap} {fr : List Fram} {γ : Gh} {mu : List (Addr × MP)} {h : Heap} {a : Addr} {its : Array Value} (S : St base fr γ mu h) (x : GT γ a its) : IsTup h a its :=
  let ⟨o, ho, n, e⟩ := x; ⟨o, S.sub _ _ ho, e ▸ rfl, n, e ▸ rfl⟩

/-- in every heap that bears the ghost the value reads as the data -/
def Rd (γ : Gh) (v : Value) (d : PyData) : Prop := ∀ h : Heap, (∀ a o, γ a = some o → h.get? a = some o) → ∃ as, PySem.Reads h v d as
def RdA (γ : Gh) (vs : List Value) (ds : List PyData) : Prop := ∀ h : Heap, (∀ a o, γ a = some o → h.get? a = some o) → ∃ as, PySem.ReadsAll h vs ds as
theorem Rd.le {γ γ' : Gh} {v : Value} {d : PyData} (x : Rd γ v d) (l : γ.Le γ') : Rd γ' v d := fun h k => x h fun a o e => k a o (l a o e)
theorem RdA.le {γ γ' : Gh} {vs : List Value} {ds : List PyData} (x : RdA γ vs ds) (l : γ.Le γ') : RdA γ' vs ds := fun h k => x h fun a o e => k a o (l a o e)
theorem Rd.int {γ : Gh} (i : Int) (t : Tok) : Rd γ (.int i t) (.int i) := fun _ _ => ⟨_, PySem.Reads.int i t⟩
theorem RdA.nil {γ : Gh} : RdA γ [] [] := fun _ _ => ⟨_, PySem.ReadsAll.nil⟩
theorem RdA.cons {γ : Gh} {v : Value} {d : PyData} {vs : List Value} {ds : List PyData} (x : Rd γ v d) (y : RdA γ vs ds) : RdA γ (v :: vs) (d :: ds) := fun h k => by
  obtain ⟨as, q⟩ := x h k
  obtain ⟨bs, r⟩ := y h k
  exact ⟨_, PySem.ReadsAll.cons q r⟩
theorem Rd.list {γ : Gh} {a : Addr} {vs : List Value} {ds : List PyData} (x : GL γ a vs.toArray) (y : RdA γ vs ds) : Rd γ (.ref a) (.list ds) := fun h k => by
  obtain ⟨o, ho, n, e⟩ := x
  obtain ⟨as, q⟩ := y h k
  exact ⟨_, reads_list_at (k _ _ ho) (by rw [e]) (by rw [e]) (by simpa using q)⟩
theorem Rd.tuple {γ : Gh} {a : Addr} {vs : List Value} {ds : List PyData} (x : GT γ a vs.toArray) (y : RdA γ vs ds) : Rd γ (.ref a) (.tuple ds) := fun h k => by
  obtain ⟨o, ho, n, e⟩ := x
  obtain ⟨as, q⟩ := y h k
  exact ⟨_, reads_tuple_at (k _ _ ho) (by rw [e]) (by rw [e]) (by simpa using q)⟩

end Mine

/-! part F2 -/
namespace Mine

structure Ax (A : Around) (fr : List Fram) (d u : Nat) : Prop where
  hd : A.handled = none
  dep : A.depth + d < recursionLimit
  un : A.units + u < cLine
  st : A.frames = some (fr.map (·.1))

theorem Ax.le {A : Around} {fr : List Fram} {d u d' u' : Nat} (x : Ax A fr d u) (h : d' ≤ d) (h' : u' ≤ u) : Ax A fr d' u' :=
  ⟨x.hd, Nat.lt_of_le_of_lt (Nat.add_le_add_left h _) x.dep, Nat.lt_of_le_of_lt (Nat.add_le_add_left h' _) x.un, x.st⟩
theorem Ax.top {A : Around} {fr : List Fram} {d u : Nat} {env : Env} {m m' : Str → Option Value} (x : Ax A ((env, m) :: fr) d u) : Ax A ((env, m') :: fr) d u := ⟨x.hd, x.dep, x.un, x.st⟩
theorem Ax.deeper {A : Around} {fr : List Fram} {d u : Nat} (x : Ax A fr (d + 1) (u + 3)) (env : Env) (m : Str → Option Value) : Ax (A.deeper env) ((env, m) :: fr) d u := by
  refine ⟨x.hd, ?_, ?_, Around.frames_deeper x.st⟩
  · have := x.dep
    show A.depth + 1 + d < _
    omega
  · have := x.un
    show A.units + 3 + u < _
    omega
theorem Ax.in1 {A : Around} {fr : List Fram} {d u : Nat} (x : Ax A fr d (u + 1)) : Ax A.in1 fr d u := by
  refine ⟨x.hd, x.dep, ?_, x.st⟩
  have := x.un
  show A.units + 1 + u < _
  omega
theorem Ax.room {A : Around} {fr : List Fram} {d u : Nat} (x : Ax A fr d u) : A.units < cLine := by have := x.un; omega

section
variable {M : Model} {A : Around} {E : Value → Shared → Prop} {s : Shared} {base : Heap} {fr : List Fram} {γ : Gh} {mu : List (Addr × MP)} {env : Env} {m : Str → Option Value}
  {x : Str} {pos : Pos} {v : Value} {K : Frag} {p : Program} {loose : List Str} {mg mb : Str → Option Value}

/-! names -/
theorem nmL {Q : Value → Shared → Prop} (S : St base ((env, m) :: fr) γ mu s.heap) (hv : m x = some v) (h : Q v s)
    (hx : env.kindOf x = some .local := by rfl) (hd : (x == ("__debug__" : Str)) = false := by decide) : wpAny M A (eval (.Name x pos) env) Q E s :=
  wpAny_Name (wpAny_loadName_local (S.frs _ (.head _)).1.1 hx S.top hv h) hd
theorem nmLn {Q : Value → Shared → Prop} (S : St base ((env, m) :: fr) γ mu s.heap) (hv : m x = some v) (h : Q v s)
    (hx : env.kindOf x = some .local := by rfl) : wpAny M A (loadName env x) Q E s :=
  wpAny_loadName_local (S.frs _ (.head _)).1.1 hx S.top hv h
/-- in a comprehension's own block -/
theorem nmI {cenv : Env} {Q : Value → Shared → Prop} (S : St base fr γ ((cenv.locals, NsP m) :: mu) s.heap) (hv : m x = some v) (h : Q v s)
    (hk : cenv.scope.kind = .function := by rfl) (hx : cenv.kindOf x = some .local := by rfl) (hd : (x == ("__debug__" : Str)) = false := by decide) : wpAny M A (eval (.Name x pos) cenv) Q E s :=
  wpAny_Name (wpAny_loadName_local hk hx (nsP_of.mpr (S.mus _ (.head _)).1) hv h) hd
theorem nmC {c : Addr} {Q : Value → Shared → Prop} (S : St base fr γ mu s.heap) (hc : env.cells.lookup x = some c) (hm : (c, Cel (some v)) ∈ mu) (h : Q v s)
    (hk : env.scope.kind = .function := by rfl) (hx : env.kindOf x = some .cell := by rfl) (hd : (x == ("__debug__" : Str)) = false := by decide) : wpAny M A (eval (.Name x pos) env) Q E s := by
  obtain ⟨⟨o, ho, e⟩, _⟩ := S.mus _ hm
  exact wpAny_Name (wpAny_loadName_cell hk hx hc ⟨o, ho, e⟩ h) hd
theorem nmF {c : Addr} {Q : Value → Shared → Prop} (S : St base fr γ mu s.heap) (hc : env.cells.lookup x = some c) (hm : (c, Cel (some v)) ∈ mu) (h : Q v s)
    (hk : env.scope.kind = .function := by rfl) (hx : env.kindOf x = some .free := by rfl) (hd : (x == ("__debug__" : Str)) = false := by decide) (hn : (x == ("__classdict__" : Str)) = false := by decide) : wpAny M A (eval (.Name x pos) env) Q E s := by
  obtain ⟨⟨o, ho, e⟩, _⟩ := S.mus _ hm
  exact wpAny_Name (wpAny_loadName_free hk hx hc ⟨o, ho, e⟩ h hn) hd
theorem nmG {Q : Value → Shared → Prop} (S : St base fr γ mu s.heap) (X : K.In base) (T : TopRead p loose mg mb base) (e : nsIn K mainGlobals x = some (some v)) (h : Q v s)
    (hg : env.globals = mainGlobals := by rfl) (hk : env.scope.kind = .function := by rfl) (hx : env.kindOf x = some .globalImplicit := by rfl) (hd : (x == ("__debug__" : Str)) = false := by decide) : wpAny M A (eval (.Name x pos) env) Q E s :=
  Name_function_global hk hx (loadGlobal_global (mg := mg) (by rw [hg]; exact T.g.keeps S.stays) (mg_of X T.g e) h) hd
theorem nmB {Q : Value → Shared → Prop} (S : St base fr γ mu s.heap) (X : K.In base) (T : TopRead p loose mg mb base) (e : nsIn K mainGlobals x = some none) (hv : bootBuiltins x = some v) (hn : x ≠ "__name__") (h : Q v s)
    (hg : env.globals = mainGlobals := by rfl) (hb : env.builtins = builtinsNs := by rfl) (hk : env.scope.kind = .function := by rfl) (hx : env.kindOf x = some .globalImplicit := by rfl) (hd : (x == ("__debug__" : Str)) = false := by decide) :
    wpAny M A (eval (.Name x pos) env) Q E s :=
  Name_function_global hk hx (loadGlobal_builtin (mg := mg) (mb := mb) (by rw [hg]; exact T.g.keeps S.stays) (mg_none_of X T.g e) (by rw [hb]; exact T.b.keeps S.stays) ((T.builtins x hn).trans hv) h) hd

theorem stL {Q : Unit → Shared → Prop} (S : St base ((env, m) :: fr) γ mu s.heap)
    (h : ∀ h' tk', St base ((env, fun y => if y = x then some v else m y) :: fr) γ mu h' → Q () { s with heap := h', toks := tk' })
    (hx : env.kindOf x = some .local := by rfl) : wpAny M A (storeName env x v) Q E s :=
  wpAny_storeName_local hx S.top (fun h' hn hs => h h' _ (S.setTop (fun b o q e => (hs.2 b q).trans e) hn))
    (by rw [(S.frs _ (.head _)).1.1]; rfl)
theorem stI {cenv : Env} {Q : Unit → Shared → Prop} (S : St base fr γ ((cenv.locals, NsP m) :: mu) s.heap)
    (h : ∀ h' tk', St base fr γ ((cenv.locals, NsP fun y => if y = x then some v else m y) :: mu) h' → Q () { s with heap := h', toks := tk' })
    (hk : cenv.scope.kind = .function := by rfl) (hx : cenv.kindOf x = some .local := by rfl) : wpAny M A (storeName cenv x v) Q E s :=
  wpAny_storeName_local hx (nsP_of.mpr (S.mus _ (.head _)).1) (fun h' hn hs => h h' _ (S.setHead (fun b o q e => (hs.2 b q).trans e) (nsP_of.mp hn)))
    (by rw [hk]; rfl)
theorem stC {c : Addr} {i : Nat} {P : MP} {v₀ : Option Value} {Q : Unit → Shared → Prop} (S : St base fr γ mu s.heap) (hc : env.cells.lookup x = some c) (hi : mu[i]? = some (c, Cel v₀))
    (h : ∀ h' tk', St base fr γ (mu.set i (c, Cel (some v))) h' → Q () { s with heap := h', toks := tk' })
    (hk : env.scope.kind = .function := by rfl) (hx : env.kindOf x = some .cell := by rfl) : wpAny M A (storeName env x v) Q E s := by
  obtain ⟨⟨o, ho, e⟩, _⟩ := S.mus _ (List.mem_of_getElem? hi)
  exact wpAny_storeName_cell hk hx hc ⟨o, ho, e⟩ fun h' hv hs => h h' s.toks (S.set hi (fun b o q e => (hs.2 b q).trans e) hv)

/-! new objects -/
theorem newListM {vs : List Value} {Q : Value → Shared → Prop} (S : St base fr γ mu s.heap)
    (h : ∀ a h' tk', St base fr γ ((a, Lst vs.toArray) :: mu) h' → Q (.ref a) { s with heap := h', toks := tk' }) (hsz : vs.length ≤ sizeLine := by size_fits) : wpAny M A (newList vs) Q E s :=
  wpAny_newObj_type (h _ _ s.toks (S.new (fun _ _ e => Heap.get?_push_of_some _ e) (Heap.get?_none_of_le (Nat.le_refl _)) (Heap.get?_push_size _ rfl) ⟨0, rfl⟩)) (by show vs.toArray.size ≤ sizeLine; rw [List.size_toArray]; exact hsz)
theorem newListF {vs : List Value} {Q : Value → Shared → Prop} (S : St base fr γ mu s.heap)
    (h : ∀ a γ' h' tk', γ.Le γ' → GL γ' a vs.toArray → St base fr γ' mu h' → Q (.ref a) { s with heap := h', toks := tk' }) (hsz : vs.length ≤ sizeLine := by size_fits) : wpAny M A (newList vs) Q E s := by
  obtain ⟨γ', L, e, S'⟩ := S.newFrozen (o := listOf vs.toArray 0) (h' := s.heap.push (listOf vs.toArray 0)) (fun _ _ e => Heap.get?_push_of_some _ e) (Heap.get?_none_of_le (Nat.le_refl _)) (Heap.get?_push_size _ rfl)
  exact wpAny_newObj_type (h _ _ _ s.toks L ⟨_, e, 0, rfl⟩ S') (by show vs.toArray.size ≤ sizeLine; rw [List.size_toArray]; exact hsz)
theorem newTupF {vs : List Value} {Q : Value → Shared → Prop} (S : St base fr γ mu s.heap)
    (h : ∀ a γ' h' tk', γ.Le γ' → GT γ' a vs.toArray → St base fr γ' mu h' → Q (.ref a) { s with heap := h', toks := tk' }) (hsz : vs.length ≤ sizeLine := by size_fits) : wpAny M A (newTuple vs) Q E s := by
  obtain ⟨γ', L, e, S'⟩ := S.newFrozen (o := { cls := .type "tuple", data := .seq vs.toArray 0 }) (h' := s.heap.push { cls := .type "tuple", data := .seq vs.toArray 0 }) (fun _ _ e => Heap.get?_push_of_some _ e) (Heap.get?_none_of_le (Nat.le_refl _)) (Heap.get?_push_size _ rfl)
  exact wpAny_newObj_type (h _ _ _ s.toks L ⟨_, e, 0, rfl⟩ S') (by show vs.toArray.size ≤ sizeLine; rw [List.size_toArray]; exact hsz)
end

section
variable {prog : Program} {w : World} {A : Around} {E : Value → Shared → Prop} {s : Shared} {base : Heap} {fr : List Fram} {γ : Gh} {mu : List (Addr × MP)}
  {K : Frag} {p : Program} {loose : List Str} {mg mb : Str → Option Value}
  {name qual : Str} {params : Arguments} {body : List Stmt} {scope : Scope} {dV kV doc pm cdv ct oc : Value} {an od : Option Addr} {osl : Array (Option Value)} {f : Addr} {pos : List Value} {kw : List (Str × Value)} {binds : List (Str × Value)}

/-- a call of a def of the text's, without cells of its own, that does not raise -/
theorem callP {d u : Nat} {Q : Value → Shared → Prop} (S : St base fr γ mu s.heap) (AX : Ax A fr (d + 1) (u + 3)) (X : K.In base) (T : TopRead p loose mg mb base)
    (ho : K.lookup f = some ⟨oc, od, .func (fnOf name qual params body scope dV kV doc pm an cdv ct), osl⟩) (hcd : codeIn K cdv qual = true)
    (hbind : BindsTo s (fnOf name qual params body scope dV kV doc pm an cdv ct) ⟨pos, kw⟩ binds) (hloc : ∀ y ∈ binds, scope.names.lookup y.1 = some .local)
    (h : ∀ L h₁ tk, St base ((envX qual scope L f cdv [], fun y => binds.reverse.lookup y) :: fr) γ mu h₁ →
      Ax (A.deeper (envX qual scope L f cdv [])) ((envX qual scope L f cdv [], fun y => binds.reverse.lookup y) :: fr) d u →
      wpAny (model prog w) (A.deeper (envX qual scope L f cdv [])) (execs body (envX qual scope L f cdv []))
        (fun fl s' => Q (match fl with | .ret v => v | _ => .none) s') (fun _ _ => False) { s with heap := h₁, toks := tk })
    (hcell : ∀ x ∈ scope.names, x.2 ≠ .cell) (hco : scope.isCoroutine = false := by rfl) (hgen : scope.isGenerator = false := by rfl) (hk : scope.kind = .function := by rfl) :
    wpAny (model prog w) A (call (.ref f) pos kw) Q E s := by
  have XS := X.keeps S.stays
  refine wpAny_call (codeAny_call_def (fd := fnOf name qual params body scope dV kV doc pm an cdv ct) (body := body) (binds := binds) (by have := AX.dep; omega) (XS _ _ ho) rfl (T.nolimit.keeps S.stays) (codeRec_of XS hcd) rfl hbind hcell hloc (fun h₁ hns hk₁ => ?_) hco hgen hk)
  have S' := S.push (env := envX qual scope s.heap.objs.size f cdv []) hk₁ (Heap.get?_none_of_le (Nat.le_refl _)) hns hk rfl
  exact wpAny_mono (h _ h₁ _ S' (AX.deeper _ _)) (fun _ _ q => q) fun _ _ q => q.elim
end
end Mine
namespace Mine
theorem bindsPeek {K : Frag} {s : Shared} {fd : FuncData} {args : Args} {binds : List (Str × Value)} (X : K.In s.heap) (e : ∀ S, peek K S (bindArgs fd args) = some binds) : BindsTo s fd args binds :=
  fun M _ _ _ hq => (Looks.of_peek (M := M) X (e _)).here hq
end Mine

/-! part F3 -/
namespace Mine
open PySem.AutoSeq1 (wpAny_loadPart')
open PySem.MeetsSeq PySem.MeetsSeq3

/-- Python's order of two lists of ints -/
def ltI : List Int → List Int → Bool
  | _, [] => false
  | [], _ :: _ => true
  | a :: r, b :: t => if a = b then ltI r t else decide (a < b)

theorem ints_get : ∀ {vs : List Value} {ns : List Int}, IntsAre vs ns → ∀ (i : Nat) (h : i < vs.length), ∃ (h' : i < ns.length) (t : Tok), vs[i] = .int ns[i] t
  | _, _, .nil, _, h => absurd h (Nat.not_lt_zero _)
  | _, _, .cons a t r, 0, _ => ⟨Nat.succ_pos _, t, rfl⟩
  | _, _, .cons a t r, i + 1, h => by
    obtain ⟨h', t', e⟩ := ints_get r i (by simpa using h)
    exact ⟨by simpa using h', t', by simpa using e⟩

theorem lt_loop (l b : Addr) (vs ws : List Value) (ns ms : List Int) (hv : IntsAre vs ns) (hw : IntsAre ws ms) (n n2 : Nat) (k : Nat) :
    ∀ i : Nat, vs.length - i = k → i ≤ vs.length → i ≤ ws.length → Meets (Builtin.«list.__eq__.loop» ⟨[.ref l, .ref b, rawInt i, rawInt 0], []⟩)
      (fun _ R s => s.heap.get? l = some { cls := .type "list", dict := none, data := .seq vs.toArray n, slots := #[] } ∧ s.heap.get? b = some { cls := .type "list", dict := none, data := .seq ws.toArray n2, slots := #[] } ∧
        R (.ok (.ret (.bool (ltI (ns.drop i) (ms.drop i))))) s) := by
  have lv := hv.length
  have lw := hw.length
  induction k with
  | zero =>
    intro i hk hi1 hi2 prog w A R s h
    obtain ⟨hp, g, d, tk, os⟩ := s; obtain ⟨hl, hb, h⟩ := h
    wp_walk using wpAny_loadPart' hl, wpAny_loadPart' hb
    have e1 : vs.toArray[((i : Nat) : Int).toNat]? = none := by simp; omega
    have hd : ns.drop i = [] := List.drop_eq_nil_of_le (by omega)
    rw [hd] at h
    rw [e1]
    wp_walk using wpAny_loadPart' hl, wpAny_loadPart' hb
    have e2 : ltI [] (ms.drop i) = decide (vs.toArray.size < ws.toArray.size) := by
      cases q : ms.drop i with
      | nil =>
        have : ms.length ≤ i := List.drop_eq_nil_iff.mp q
        simp [ltI]; omega
      | cons a r =>
        have : i < ms.length := by
          rcases Nat.lt_or_ge i ms.length with x | x
          · exact x
          · rw [List.drop_eq_nil_of_le x] at q; cases q
        simp [ltI]; omega
    rw [e2] at h
    exact h
  | succ k ih =>
    intro i hk hi1 hi2 prog w A R s h
    obtain ⟨hp, g, d, tk, os⟩ := s; obtain ⟨hl, hb, h⟩ := h
    wp_walk using wpAny_loadPart' hl, wpAny_loadPart' hb
    have hlt : i < vs.length := by omega
    obtain ⟨hn, t1, ev⟩ := ints_get hv i hlt
    have e1 : vs.toArray[((i : Nat) : Int).toNat]? = some (.int ns[i] t1) := by simp [hlt, ev]
    have hd : ns.drop i = ns[i] :: ns.drop (i + 1) := List.drop_eq_getElem_cons hn
    by_cases hlt2 : i < ws.length
    · obtain ⟨hm, t2, ew⟩ := ints_get hw i hlt2
      have e2 : ws.toArray[((i : Nat) : Int).toNat]? = some (.int ms[i] t2) := by simp [hlt2, ew]
      have hd2 : ms.drop i = ms[i] :: ms.drop (i + 1) := List.drop_eq_getElem_cons hm
      have hc : ((i : Int) + 1) = ((i + 1 : Nat) : Int) := by push_cast; rfl
      rw [hd, hd2] at h
      rw [e1, e2]
      refine wpAny_bind (EqGives.int ns[i] ms[i] t1 t2 prog w _ _ _ _ ?_)
      by_cases hb' : ns[i] = ms[i]
      · have hbt : (ns[i] == ms[i]) = true := by simp [hb']
        rw [hbt]
        rw [ltI, if_pos hb'] at h
        wp_walk
        rw [hc]
        exact ⟨plainId_quiet plain_eq_loop _, codeAny_builtin entry_eq_loop (by
          rw [Around.under_plainId plain_eq_loop _]
          exact ih (i + 1) (by omega) (by omega) (by omega) prog w A R _ ⟨hl, hb, h⟩)⟩
      · have hbf : (ns[i] == ms[i]) = false := by simp [hb']
        rw [hbf]
        rw [ltI, if_neg hb'] at h
        wp_walk using wpAny_loadPart' hl, wpAny_loadPart' hb
        rw [e1, e2]
        refine wpAny_bind (show wpAny _ _ (compareOp .Lt (.int ns[i] t1) (.int ms[i] t2)) _ _ _ from wpAny_lt_int ?_)
        exact wpAny_pure h
    · have e2 : ws.toArray[((i : Nat) : Int).toNat]? = none := by simp; omega
      have hd2 : ms.drop i = [] := List.drop_eq_nil_of_le (by omega)
      rw [e1, e2]
      wp_walk using wpAny_loadPart' hl, wpAny_loadPart' hb
      rw [hd, hd2] at h
      have e3 : decide (vs.toArray.size < ws.toArray.size) = false := by simp; omega
      show R (.ok (.ret (.bool (decide (vs.toArray.size < ws.toArray.size))))) _
      rw [e3]
      exact h

theorem list_lt (l b : Addr) (vs ws : List Value) (ns ms : List Int) (hv : IntsAre vs ns) (hw : IntsAre ws ms) (n n2 : Nat) :
    Meets (Builtin.«list.__lt__» ⟨[.ref l, .ref b], []⟩)
      (fun _ R s => s.heap.get? l = some { cls := .type "list", dict := none, data := .seq vs.toArray n, slots := #[] } ∧ s.heap.get? b = some { cls := .type "list", dict := none, data := .seq ws.toArray n2, slots := #[] } ∧
        R (.ok (.ret (.bool (ltI ns ms)))) s) := by
  intro prog w A R s h
  obtain ⟨hp, g, d, tk, os⟩ := s; obtain ⟨hl, hb, h⟩ := h
  have f3 := PySem.AutoSeq1.sub_list_list
  wp_walk using wpAny_loadPart' hl, wpAny_loadPart' hb
  exact ⟨plainId_quiet plain_eq_loop _, codeAny_builtin entry_eq_loop (by
    rw [Around.under_plainId plain_eq_loop _]
    exact lt_loop l b vs ws ns ms hv hw n n2 _ 0 rfl (Nat.zero_le _) (Nat.zero_le _) prog w A R _ ⟨hl, hb, by simpa using h⟩)⟩

section
variable {prog : Program} {w : World} {A : Around} {E : Value → Shared → Prop} {s : Shared}
theorem lt_lists_obj {l b : Addr} {vs ws : List Value} {ns ms : List Int} {n n2 : Nat} {Q : Value → Shared → Prop} (hl : s.heap.get? l = some (listOf vs.toArray n)) (hb : s.heap.get? b = some (listOf ws.toArray n2))
    (hv : IntsAre vs ns) (hw : IntsAre ws ms) (hu : A.units < cLine) (h : Q (.bool (ltI ns ms)) s) : wpAny (model prog w) A (compareOp .Lt (.ref l) (.ref b)) Q E s := by
  show wpAny _ _ (richCompare .Lt (.ref l) (.ref b)) Q E s
  have ha : s.TypeIs (.ref l) "list" := ⟨_, hl, rfl⟩
  have hb' : s.TypeIs (.ref b) "list" := ⟨_, hb, rfl⟩
  simp only [richCompare, cmpInfo, ha.oneThing_none]
  refine wpAny_holding ?_
  refine wpAny_bind (wpAny_cRoomFor hu ?_)
  refine wpAny_bind (wpAny_typeOf ha (wpAny_bind (wpAny_typeOf hb' ?_)))
  simp only [bne_self_eq_false, Bool.false_eq_true, if_false]
  refine wpAny_bind (wpAny_pure ?_)
  simp only [Bool.false_eq_true, if_false]
  refine wpAny_bind (wpAny_tryCompare_slot ha PySem.F.slot_list_lt (call_meets PySem.F.slot_list_lt ha PySem.F.entry_list_lt (PySem.F.args_list_lt_2 _ _) (list_lt l b vs ws ns ms hv hw n n2) ⟨hl, hb, ?_⟩))
  exact ⟨(fun q => nomatch q), wpAny_pure h⟩
end
end Mine

/-! part F4 -/
namespace Mine
theorem keepSt {base : Heap} {fr : List Fram} {γ : Gh} {mu : List (Addr × MP)} {h : Heap} (_S : St base fr γ mu h) : True := trivial
end Mine
open Mine
local macro_rules | `(tactic| walk_at "m val") => `(tactic| first | with_unfolding_all exact rfl | assumption)
local macro_rules | `(tactic| walk_at "m mem") => `(tactic| first | exact List.Mem.head _ | exact List.Mem.tail _ (List.Mem.head _) | exact List.Mem.tail _ (List.Mem.tail _ (List.Mem.head _)) | exact List.Mem.tail _ (List.Mem.tail _ (List.Mem.tail _ (List.Mem.head _))) | assumption)
local macro_rules | `(tactic| walk_at "eval Name") => `(tactic| ((with_reducible rename St _ _ _ _ _ => sX); with_unfolding_all refine guard_global (by rfl) ?_; k_dflt (refine' nmG sX ?kX ?kT ?kE ?_; (case kX => assumption); (case kT => assumption); (case kE => k_is); k_whole)))
local macro_rules | `(tactic| walk_at "eval Name") => `(tactic| ((with_reducible rename St _ _ _ _ _ => sX); with_unfolding_all refine guard_global (by rfl) ?_; k_dflt (refine' nmB sX ?kX ?kT ?kE ?kV ?kN ?_; (case kX => assumption); (case kT => assumption); (case kE => k_is); (case kV => boot_by_name); (case kN => decide); k_whole)))
local macro_rules | `(tactic| walk_at "eval Name") => `(tactic| ((with_reducible rename St _ _ _ _ _ => sX); k_dflt (refine' nmL sX ?kV ?_ ?k1 ?k2; (case k1 => rfl); (case k2 => decide); (case kV => walk_at "m val"); k_whole)))
local macro_rules | `(tactic| walk_at "loadName") => `(tactic| ((with_reducible rename St _ _ _ _ _ => sX); k_dflt (refine' nmLn sX ?kV ?_ ?k1; (case k1 => rfl); (case kV => walk_at "m val"); k_whole)))
local macro_rules | `(tactic| walk_at "storeName") => `(tactic| ((with_reducible rename St _ _ _ _ _ => sX); k_dflt (refine' stL sX ?_ ?k1; (case k1 => rfl); k_whole); intro h' tk' S'; clear sX))

/-! part F5 -/
namespace Mine
open PySem.AutoSeq1 (wpAny_loadPart')

/-- a list, frozen or turning -/
def HL (γ : Gh) (mu : List (Addr × MP)) (a : Addr) (vs : List Value) : Prop := GL γ a vs.toArray ∨ (a, Lst vs.toArray) ∈ mu
theorem HL.fro {γ : Gh} {mu : List (Addr × MP)} {a : Addr} {vs : List Value} (x : GL γ a vs.toArray) : HL γ mu a vs := .inl x
theorem HL.mut {γ : Gh} {mu : List (Addr × MP)} {a : Addr} {vs : List Value} (x : (a, Lst vs.toArray) ∈ mu) : HL γ mu a vs := .inr x
theorem HL.le {γ γ' : Gh} {mu : List (Addr × MP)} {a : Addr} {vs : List Value} (x : HL γ mu a vs) (l : γ.Le γ') : HL γ' mu a vs := x.elim (fun y => .inl (y.le l)) .inr
theorem HL.cons {γ : Gh} {mu : List (Addr × MP)} {a : Addr} {vs : List Value} {q : Addr × MP} (x : HL γ mu a vs) : HL γ (q :: mu) a vs := x.elim .inl (fun y => .inr (.tail _ y))

theorem insIdx_eq (l : List Value) (k : Nat) (y : Value) : (l.toArray.extract 0 k).push y ++ l.toArray.extract k = (l.take k ++ y :: l.drop k).toArray := kl_ins_eq l k y

theorem seqIndex_at {k n : Nat} (hk : k < n) : seqIndex? (k : Int) n = some k := by
  unfold seqIndex?
  have h1 : ¬ ((k : Int) < 0) := by omega
  simp only [h1, if_false]
  rw [if_pos (by simp only [Bool.and_eq_true, decide_eq_true_eq]; omega)]
  simp

theorem fit_small {k n : Nat} (hk : k ≤ n) (hsz : n ≤ sizeLine) : Builtin.List.listFitsIndex (k : Int) = true := by
  rw [sizeLine_eq] at hsz
  exact fitsIndex_both (by omega) (by omega)

section
variable {prog : Program} {w : World} {A : Around} {E : Value → Shared → Prop} {s : Shared} {base : Heap} {fr : List Fram} {γ : Gh} {mu : List (Addr × MP)} {a b : Addr} {vs ws : List Value}

theorem St.lobj {h : Heap} (S : St base fr γ mu h) (x : HL γ mu a vs) : ∃ n, h.get? a = some (listOf vs.toArray n) := by
  rcases x with ⟨o, ho, n, e⟩ | m
  · exact ⟨n, e ▸ S.sub _ _ ho⟩
  · obtain ⟨⟨o, ho, n, e⟩, _⟩ := S.mus _ m
    exact ⟨n, e ▸ ho⟩
theorem St.lis {h : Heap} (S : St base fr γ mu h) (x : HL γ mu a vs) : h.IsList a vs.toArray := let ⟨n, e⟩ := S.lobj x; ⟨_, e, rfl, n, rfl⟩

theorem opLen {Q : Value → Shared → Prop} (S : St base fr γ mu s.heap) (x : HL γ mu a vs) (hsz : vs.length ≤ sizeLine) (h : ∀ t tk', Q (.int vs.length t) { s with toks := tk' }) :
    wpAny (model prog w) A (call (.builtin "len") [.ref a]) Q E s := by
  refine Calls.call_function_entry kind_len plain_len entry_len (args_len1 _) ?_
  exact wpAny_len_body_list (S.lis x) (by rw [sizeLine_eq] at hsz; simp; omega) (by simpa using h _ _)

theorem opItem {k : Int} {t : Tok} {v : Value} {Q : Value → Shared → Prop} (S : St base fr γ mu s.heap) (x : HL γ mu a vs) (h0 : 0 ≤ k) (hhi : k < 2 ^ 63) (hv : vs[k.toNat]? = some v) (h : Q v s) :
    wpAny (model prog w) A (getItem (.ref a) (.int k t)) Q E s := wpAny_getItem_list (S.lis x) h0 hhi (by simpa using hv) h
theorem opSub {value slice : PySem.Expr} {k : Int} {t : Tok} {v : Value} {Q : Value → Shared → Prop} (S : St base fr γ mu s.heap) (x : HL γ mu a vs) (h0 : 0 ≤ k) (hhi : k < 2 ^ 63) (hv : vs[k.toNat]? = some v) (h : Q v s)
    (hs : subscripted slice false (.ref a) (.int k t) = operate [.ref a, .int k t] (getItem (.ref a) (.int k t)) := by with_unfolding_all rfl) :
    wpAny (model prog w) A (subscriptTail value slice (.ref a) (.int k t)) Q E s :=
  tail_any (S.lis x).typeIs slot_list_getitem.lookup (opItem S x h0 hhi hv h) hs

theorem opInInts {k : Int} {t : Tok} {ns : List Int} {Q : Value → Shared → Prop} (S : St base fr γ mu s.heap) (x : HL γ mu a vs) (hi : IntsAre vs ns) (h : Q (.bool (ns.any (· == k))) s) :
    wpAny (model prog w) A (compareOp .In (.int k t) (.ref a)) Q E s := in_list_ints (S.lis x) hi h
theorem opNotInInts {k : Int} {t : Tok} {ns : List Int} {Q : Value → Shared → Prop} (S : St base fr γ mu s.heap) (x : HL γ mu a vs) (hi : IntsAre vs ns) (h : Q (.bool (!(ns.any (· == k)))) s) :
    wpAny (model prog w) A (compareOp .NotIn (.int k t) (.ref a)) Q E s := notin_list_ints (S.lis x) hi h
theorem opLt {ns ms : List Int} {Q : Value → Shared → Prop} (S : St base fr γ mu s.heap) (x : HL γ mu a vs) (y : HL γ mu b ws) (hv : IntsAre vs ns) (hw : IntsAre ws ms) (hu : A.units < cLine) (h : Q (.bool (ltI ns ms)) s) :
    wpAny (model prog w) A (compareOp .Lt (.ref a) (.ref b)) Q E s := by
  obtain ⟨n, e⟩ := S.lobj x
  obtain ⟨n', e'⟩ := S.lobj y
  exact lt_lists_obj e e' hv hw hu h

theorem opMeth {name : Str} {id : String} {pl : Sem Bool} {Q : Value × List Value → Shared → Prop} (S : St base fr γ mu s.heap) (x : HL γ mu a vs) (slot : Slot "list" name id) (hty : typeOf (.builtin id) = pure (.type "method_descriptor"))
    (h : Q (.builtin id, [.ref a]) s) : wpAny (model prog w) A (getMethod (.ref a) name pl) Q E s := by
  obtain ⟨n, e⟩ := S.lobj x
  exact getMethod_builtin ⟨_, e, rfl⟩ PySem.F.plainAttrs_list slot hty (fun a e' => by cases e'; exact ⟨_, e, rfl⟩) h

theorem St.turn {h : Heap} {i : Nat} {ys : List Value} (S : St base fr γ mu h) (hi : mu[i]? = some (a, Lst vs.toArray)) (f : Array Value → Array Value) (he : f vs.toArray = ys.toArray) :
    St base fr γ (mu.set i (a, Lst ys.toArray)) (h.update a (Obj.mapSeq f)) := by
  obtain ⟨⟨o, ho, n, e⟩, _⟩ := S.mus _ (List.mem_of_getElem? hi)
  subst e
  refine S.set hi (fun b o q e => (Heap.get?_update_other _ _ (Ne.symm q)).trans e) ⟨_, IsL.update ho f, ?_⟩
  rw [he]
  split <;> exact ⟨_, rfl⟩

theorem opInsert {i k : Nat} {x : Int} {t : Tok} {v : Value} {Q : Value → Shared → Prop} (S : St base fr γ mu s.heap) (hi : mu[i]? = some (a, Lst vs.toArray)) (hx : x = (k : Int)) (hk : k ≤ vs.length) (hsz : vs.length ≤ sizeLine)
    (h : ∀ h' tk', St base fr γ (mu.set i (a, Lst (vs.take k ++ v :: vs.drop k).toArray)) h' → Q .none { s with heap := h', toks := tk' }) :
    wpAny (model prog w) A (call (.builtin "list.insert") [.ref a, .int x t, v]) Q E s := by
  obtain ⟨⟨o, ho, n, e⟩, _⟩ := S.mus _ (List.mem_of_getElem? hi)
  subst e
  have hf : Builtin.List.listFitsIndex x = true := by rw [hx]; exact fit_small hk hsz
  have hz : vs.toArray.size ≤ sizeLine := by rw [List.size_toArray]; exact hsz
  have e : (if x < 0 then (x + (vs.toArray.size : Int)).toNat else min x.toNat vs.toArray.size) = k := by
    rw [List.size_toArray, hx, if_neg (by omega)]; omega
  clear hsz hx
  refine call_meets PySem.F.slot_list_insert ⟨_, ho, rfl⟩ PySem.F.entry_list_insert (PySem.F.args_list_insert_3 _ _ _) (PySem.AutoSeq1.list_insert_list_int_val_1 a _ n x t v (by simp [hf]) hz) ⟨ho, ?_⟩
  refine h _ _ (S.turn hi _ ?_)
  dsimp only
  rw [e]
  exact insIdx_eq vs k v

theorem opAppend {i : Nat} {v : Value} {Q : Value → Shared → Prop} (S : St base fr γ mu s.heap) (hi : mu[i]? = some (a, Lst vs.toArray)) (hsz : vs.length ≤ sizeLine)
    (h : ∀ h' tk', St base fr γ (mu.set i (a, Lst (vs ++ [v]).toArray)) h' → Q .none { s with heap := h', toks := tk' }) :
    wpAny (model prog w) A (call (.builtin "list.append") [.ref a, v]) Q E s := by
  obtain ⟨⟨o, ho, n, e⟩, _⟩ := S.mus _ (List.mem_of_getElem? hi)
  subst e
  exact call_meets slot_list_append ⟨_, ho, rfl⟩ entry_list_append (args_list_append _ _) (PySem.AutoListH.list_append_list_val_0 a _ n v (by rw [List.size_toArray]; exact hsz)) ⟨ho, h _ _ (S.turn hi _ (by simp))⟩

theorem opExtend {i : Nat} {Q : Value → Shared → Prop} (S : St base fr γ mu s.heap) (hi : mu[i]? = some (a, Lst vs.toArray)) (y : HL γ mu b ws) (hsz : vs.length + ws.length ≤ sizeLine)
    (h : ∀ h' tk', St base fr γ (mu.set i (a, Lst (vs ++ ws).toArray)) h' → Q .none { s with heap := h', toks := tk' }) :
    wpAny (model prog w) A (call (.builtin "list.extend") [.ref a, .ref b]) Q E s := by
  obtain ⟨⟨o, ho, n, e⟩, _⟩ := S.mus _ (List.mem_of_getElem? hi)
  subst e
  obtain ⟨n', e'⟩ := S.lobj y
  exact call_meets PySem.F.slot_list_extend ⟨_, ho, rfl⟩ PySem.F.entry_list_extend (PySem.F.args_list_extend_2 _ _) (PySem.AutoSeq1.list_extend_list_list_0 a _ n b _ n' (by
    have e : Builtin.List.listTooLong (vs.toArray.size + ws.toArray.size) = false := decide_eq_false (Nat.not_lt.mpr (by rw [List.size_toArray, List.size_toArray]; exact hsz))
    rw [e, Bool.and_false]; exact Bool.false_ne_true) (by rw [List.size_toArray]; exact Nat.le_trans (Nat.le_add_right _ _) hsz) (by rw [List.size_toArray, List.size_toArray]; exact Nat.le_succ_of_le hsz))
    ⟨ho, e', h _ _ (S.turn hi _ (by simp))⟩

end
end Mine

/-! part F6 -/
namespace Mine

section
variable {prog : Program} {w : World} {A : Around} {E : Value → Shared → Prop} {s : Shared} {base : Heap} {fr : List Fram} {γ : Gh} {mu : List (Addr × MP)} {a b : Addr} {vs ws : List Value}

/-- a while by an invariant over the heap -/
theorem whileX {test : PySem.Expr} {body orelse : List Stmt} {pos : Pos} {env : Env} {Q : Flow → Shared → Prop} (I : Env → Nat → Heap → Prop)
    (turn : ∀ n h' tk', I env n h' → wpAny (model prog w) A (isTrue test env (eval test env))
      (fun b s₂ => if b then wpAny (model prog w) A (execs body env) (fun f s₃ => match f with
            | .next | .cont => ∃ n2 h2 tk2, s₃ = { s with heap := h2, toks := tk2 } ∧ n2 < n ∧ I env n2 h2
            | .brk => Q .next s₃
            | .ret v => Q (.ret v) s₃) (notedBy (model prog w) A env (cameBackBy (model prog w) A env E)) s₂
        else wpAny (model prog w) A (execs orelse env) (fun f s₃ => Q f s₃) (notedBy (model prog w) A env (cameBackBy (model prog w) A env E)) s₂)
      (notedBy (model prog w) A env (cameBackBy (model prog w) A env E)) { s with heap := h', toks := tk' })
    (n : Nat) (h0 : I env n s.heap) : wpAny (model prog w) A (exec (.While test body orelse pos) env) Q E s := by
  refine wpAny_While (codeAny_whileLoop (fun n s' => ∃ h' tk', s' = { s with heap := h', toks := tk' } ∧ I env n h') ?_ n ⟨s.heap, s.toks, rfl, h0⟩)
  rintro n s' ⟨h', tk', rfl, hI⟩
  refine wpAny_mono (turn n h' tk' hI) (fun b s₂ hb => ?_) fun _ _ e => e
  cases b with
  | false =>
    simp only [Bool.false_eq_true, if_false] at hb ⊢
    exact wpAny_mono hb (fun _ _ q => q) fun _ _ e => e
  | true =>
    simp only [if_true] at hb ⊢
    refine wpAny_mono hb (fun f s₃ h₃ => ?_) fun _ _ e => e
    cases f with
    | next => obtain ⟨n2, h2, tk2, e, l, i⟩ := h₃; exact ⟨n2, l, h2, tk2, e, i⟩
    | cont => obtain ⟨n2, h2, tk2, e, l, i⟩ := h₃; exact ⟨n2, l, h2, tk2, e, i⟩
    | brk => exact h₃
    | ret v => exact h₃
end

/-- the list of ints at an address -/
def GI (γ : Gh) (a : Addr) (ns : List Int) : Prop := ∃ vs, GL γ a vs.toArray ∧ IntsAre vs ns
theorem GI.le {γ γ' : Gh} {a : Addr} {ns : List Int} (x : GI γ a ns) (l : γ.Le γ') : GI γ' a ns := let ⟨vs, g, i⟩ := x; ⟨vs, g.le l, i⟩
inductive GRs (γ : Gh) : List Value → List (List Int) → Prop
  | nil : GRs γ [] []
  | cons {a ns vs rows} : GI γ a ns → GRs γ vs rows → GRs γ (.ref a :: vs) (ns :: rows)
theorem GRs.le {γ γ' : Gh} : ∀ {vs : List Value} {rows : List (List Int)}, GRs γ vs rows → γ.Le γ' → GRs γ' vs rows
  | _, _, .nil, _ => .nil
  | _, _, .cons x r, l => .cons (x.le l) (r.le l)
theorem GRs.length {γ : Gh} : ∀ {vs : List Value} {rows : List (List Int)}, GRs γ vs rows → vs.length = rows.length
  | _, _, .nil => rfl
  | _, _, .cons _ r => by simp [r.length]
theorem GRs.get {γ : Gh} : ∀ {vs : List Value} {rows : List (List Int)}, GRs γ vs rows → ∀ (i : Nat) (h : i < vs.length), ∃ (h' : i < rows.length) (a : Addr), vs[i] = .ref a ∧ GI γ a rows[i]
  | _, _, .nil, _, h => absurd h (Nat.not_lt_zero _)
  | _, _, .cons x _, 0, _ => ⟨Nat.succ_pos _, _, rfl, x⟩
  | _, _, .cons _ r, i + 1, h => by
    obtain ⟨h', b, e, y⟩ := r.get i (by simpa using h)
    exact ⟨by simpa using h', b, by simpa using e, by simpa using y⟩
theorem GRs.append {γ : Gh} : ∀ {vs ws : List Value} {rows rows' : List (List Int)}, GRs γ vs rows → GRs γ ws rows' → GRs γ (vs ++ ws) (rows ++ rows')
  | _, _, _, _, .nil, y => y
  | _, _, _, _, .cons x r, y => .cons x (r.append y)
theorem GRs.take {γ : Gh} : ∀ {vs : List Value} {rows : List (List Int)} (k : Nat), GRs γ vs rows → GRs γ (vs.take k) (rows.take k)
  | _, _, 0, _ => by simpa using GRs.nil
  | _, _, _ + 1, .nil => by simpa using GRs.nil
  | _, _, k + 1, .cons x r => by simpa using GRs.cons x (r.take k)
theorem GRs.drop {γ : Gh} : ∀ {vs : List Value} {rows : List (List Int)} (k : Nat), GRs γ vs rows → GRs γ (vs.drop k) (rows.drop k)
  | _, _, 0, y => by simpa using y
  | _, _, _ + 1, .nil => by simpa using GRs.nil
  | _, _, k + 1, .cons _ r => by simpa using r.drop k

/-- the first k items meet P, the others don't -/
structure Cut (P : List Int → Bool) (l : List (List Int)) (k : Nat) : Prop where
  le : k ≤ l.length
  yes : ∀ i (h : i < l.length), i < k → P l[i] = true
  no : ∀ i (h : i < l.length), k ≤ i → P l[i] = false
def Down (P : List Int → Bool) (l : List (List Int)) : Prop := ∀ i j (hi : i < l.length) (hj : j < l.length), i ≤ j → P l[j] = true → P l[i] = true

section
variable {M : Model} {A : Around} {E : Value → Shared → Prop} {s : Shared} {env : Env} {base : Heap} {K : Frag}
/-- a call of what stands at the top, its arguments by place -/
theorem cwK {pos : Pos} {f : Value} {first : List Value} {e : PySem.Expr} {rest : List PySem.Expr} {Q : Value → Shared → Prop} (X : K.In base) (hk : keepIn K f = true)
    (h : wpAny M A (spliced (backTo pos (starEach (e :: rest) env))) (fun vs s₁ => base.StaysIn s₁.heap ∧ wpAny M A (call f (first ++ vs)) Q E s₁) E s)
    (he : starEach (e :: rest) env = (false, eval e env) :: starEach rest env := by rfl) (hplain : (backTo pos (starEach rest env)).any (·.1) = false := by rfl) :
    wpAny M A (callWith pos f first (backTo pos (starEach (e :: rest) env)) []) Q E s := by
  refine callWith_K X hk (wpAny_mono h (fun vs s₁ h₁ => ⟨X.keeps h₁.1, h₁.2⟩) fun _ _ e => e) he hplain
end

section
variable {prog : Program} {w : World} {A : Around} {E : Value → Shared → Prop} {s : Shared} {base : Heap} {fr : List Fram} {γ : Gh} {mu : List (Addr × MP)} {a b : Addr} {vs ws : List Value} {ns ms : List Int}
theorem opEqI {Q : Value → Shared → Prop} (S : St base fr γ mu s.heap) (x : HL γ mu a vs) (y : HL γ mu b ws) (hv : IntsAre vs ns) (hw : IntsAre ws ms) (hu : A.units + 64 < cLine) (h : Q (.bool (decide (ns = ms))) s) :
    wpAny (model prog w) A (compareOp .Eq (.ref a) (.ref b)) Q E s := ke_eq_ints (S.lis x) (S.lis y) hv hw hu h
theorem opNeI {Q : Value → Shared → Prop} (S : St base fr γ mu s.heap) (x : HL γ mu a vs) (y : HL γ mu b ws) (hv : IntsAre vs ns) (hw : IntsAre ws ms) (hu : A.units + 64 < cLine) (h : Q (.bool (!decide (ns = ms))) s) :
    wpAny (model prog w) A (compareOp .NotEq (.ref a) (.ref b)) Q E s := ke_ne_ints (S.lis x) (S.lis y) hv hw hu h
theorem Ax.room64 {A : Around} {fr : List Fram} {d u : Nat} (x : Ax A fr d u) (h : 64 ≤ u) : A.units + 64 < cLine := by have := x.un; omega
end

end Mine
local macro_rules | `(tactic| walk_at "m hl") => `(tactic| first | assumption | exact HL.fro (by assumption) | exact HL.mut (by walk_at "m mem"))
local macro_rules | `(tactic| walk_at "m stop") => `(tactic| ((first | (fail_if_success (fail_if_success with_reducible show wpAny _ _ _ _ _ _)) | (fail_if_success (fail_if_success with_reducible show (if _ then _ else _ : Prop)))); (fail_if_success with_reducible show wpAny _ _ (exec (Stmt.While _ _ _ _) _) _ _ _); (fail_if_success with_reducible show wpAny _ _ (exec (Stmt.For _ _ _ _ _) _) _ _ _); (fail_if_success with_reducible show wpAny _ _ (exec (Stmt.Try _ _ _ _ _) _) _ _ _); (fail_if_success with_reducible show wpAny _ _ (eval (PySem.Expr.ListComp _ _ _ _) _) _ _ _); (fail_if_success with_reducible show wpAny _ _ (call (Value.ref _) _ _) _ _ _)))
local macro_rules | `(tactic| walk_at "m walk") => `(tactic| repeat' ((try dsimp only); first | ((with_reducible show Heap.StaysIn _ _ ∧ _); refine ⟨St.stays (by assumption), ?_⟩; (try dsimp only [List.nil_append, List.cons_append])) | (walk_at "m stop"; walk1)))
local macro_rules | `(tactic| walk_at "call builtin:len") => `(tactic| ((with_reducible rename St _ _ _ _ _ => sX); k_dflt (refine' opLen sX ?kX ?kZ ?_; (case kX => walk_at "m hl"); (case kZ => (first | assumption | (rw [sizeLine_eq]; omega))); k_whole); intro t' tk'))
local macro_rules | `(tactic| walk_at "compareOp Lt ref ref") => `(tactic| ((with_reducible rename St _ _ _ _ _ => sX); k_dflt (refine' opLt sX ?kX ?kY ?kV ?kW ?kU ?_; (case kX => walk_at "m hl"); (case kY => walk_at "m hl"); (case kV => assumption); (case kW => assumption); (case kU => exact Ax.room (by assumption)); k_whole)))
local macro_rules | `(tactic| walk_at "callWith ref") => `(tactic| (k_dflt (refine' cwK ?kX ?kK ?_ ?k1 ?k2; (case kX => assumption); (case kK => k_is); (case k1 => rfl); (case k2 => rfl); k_whole)))
local macro_rules | `(tactic| walk_at "getMethod ref") => `(tactic| ((with_reducible rename St _ _ _ _ _ => sX); k_dflt (first
  | refine opMeth sX (by walk_at "m hl") PySem.F.slot_list_insert PySem.F.type_list_insert ?_
  | refine opMeth sX (by walk_at "m hl") PySem.F.slot_list_append PySem.F.type_list_append ?_
  | refine opMeth sX (by walk_at "m hl") PySem.F.slot_list_extend PySem.F.type_list_extend ?_
  | refine opMeth sX (by walk_at "m hl") PySem.F.slot_list_pop PySem.F.type_list_pop ?_)))
local macro_rules | `(tactic| walk_at "m idx") => `(tactic| first | exact rfl | assumption)
local macro_rules | `(tactic| walk_at "m size") => `(tactic| first | assumption | (rw [sizeLine_eq]; omega) | (simp only [List.length_append, List.length_cons, List.length_nil]; rw [sizeLine_eq]; omega))
local macro_rules | `(tactic| walk_at "call builtin:list.append") => `(tactic| ((with_reducible rename St _ _ _ _ _ => sX); k_dflt (refine' opAppend sX ?kI ?kZ ?_; (case kI => walk_at "m idx"); (case kZ => walk_at "m size"); k_whole); intro h' tk' S'; clear sX))
local macro_rules | `(tactic| walk_at "compareOp Eq ref ref") => `(tactic| ((with_reducible rename St _ _ _ _ _ => sX); k_dflt (refine' opEqI sX ?kX ?kY ?kV ?kW ?kU ?_; (case kX => walk_at "m hl"); (case kY => walk_at "m hl"); (case kV => assumption); (case kW => assumption); (case kU => exact Ax.room64 (by assumption) (by omega)); k_whole)))
local macro_rules | `(tactic| walk_at "compareOp NotEq ref ref") => `(tactic| ((with_reducible rename St _ _ _ _ _ => sX); k_dflt (refine' opNeI sX ?kX ?kY ?kV ?kW ?kU ?_; (case kX => walk_at "m hl"); (case kY => walk_at "m hl"); (case kV => assumption); (case kW => assumption); (case kU => exact Ax.room64 (by assumption) (by omega)); k_whole)))

/-! part P1 -/
namespace Mine
theorem ltI_irrefl : ∀ a : List Int, ltI a a = false
  | [] => rfl
  | a :: r => by rw [ltI, if_pos rfl]; exact ltI_irrefl r
theorem ltI_nil (a : List Int) : ltI a [] = false := by cases a <;> rfl
theorem ltI_trans : ∀ {a b c : List Int}, ltI a b = true → ltI b c = true → ltI a c = true
  | _, [], _, h, _ => by rw [ltI_nil] at h; cases h
  | _, _ :: _, [], _, h => by rw [ltI_nil] at h; cases h
  | [], _ :: _, _ :: _, _, _ => rfl
  | a :: r, b :: t, c :: u, h, h' => by
    rw [ltI] at h h' ⊢
    by_cases e : a = b
    · subst e
      rw [if_pos rfl] at h
      by_cases e' : a = c
      · subst e'
        rw [if_pos rfl] at h' ⊢
        exact ltI_trans h h'
      · rw [if_neg e'] at h' ⊢
        exact h'
    · rw [if_neg e] at h
      have l1 : a < b := of_decide_eq_true h
      by_cases e' : b = c
      · subst e'
        rw [if_neg e]
        exact h
      · rw [if_neg e'] at h'
        have l2 : b < c := of_decide_eq_true h'
        rw [if_neg (by omega)]
        exact decide_eq_true (by omega)
theorem ltI_total : ∀ {a b : List Int}, ltI a b = false → ltI b a = false → a = b
  | [], [], _, _ => rfl
  | [], _ :: _, h, _ => by cases h
  | _ :: _, [], _, h => by cases h
  | a :: r, b :: t, h, h' => by
    rw [ltI] at h h'
    by_cases e : a = b
    · subst e
      rw [if_pos rfl] at h h'
      rw [ltI_total h h']
    · rw [if_neg e] at h
      rw [if_neg (fun q => e q.symm)] at h'
      have l1 := of_decide_eq_false h
      have l2 := of_decide_eq_false h'
      omega
theorem ltI_neg {a b c : List Int} (h : ltI b a = false) (h' : ltI c b = false) : ltI c a = false := by
  cases q : ltI c a with
  | false => rfl
  | true =>
    cases p : ltI a b with
    | false =>
      have := ltI_total h p
      subst this
      rw [h'] at q; cases q
    | true =>
      rw [ltI_trans q p] at h'; cases h'

def SortedR (l : List (List Int)) : Prop := l.Pairwise fun a b => ltI b a = false
theorem SortedR.get {l : List (List Int)} (S : SortedR l) {i j : Nat} (hi : i < l.length) (hj : j < l.length) (h : i ≤ j) : ltI l[j] l[i] = false := by
  rcases Nat.lt_or_eq_of_le h with q | q
  · exact List.pairwise_iff_getElem.mp S i j hi hj q
  · subst q; exact ltI_irrefl _
theorem SortedR.downL {l : List (List Int)} (S : SortedR l) (x : List Int) : Down (fun r => ltI r x) l := fun i j hi hj h q => by
  have := S.get hi hj h
  cases p : ltI l[i] x with
  | true => exact p
  | false =>
    have q' : ltI l[j] x = true := q
    cases r : ltI l[i] l[j] with
    | true => rw [ltI_trans r q'] at p; cases p
    | false =>
      have e := ltI_total this r
      rw [e, p] at q'; cases q'
theorem SortedR.downR {l : List (List Int)} (S : SortedR l) (x : List Int) : Down (fun r => !ltI x r) l := fun i j hi hj h q => by
  have := S.get hi hj h
  have q' : ltI x l[j] = false := by simpa using q
  show (!ltI x l[i]) = true
  rw [ltI_neg this q']; rfl
  
theorem Cut.mem {l : List (List Int)} {x : List Int} {k : Nat} (S : SortedR l) (c : Cut (fun r => ltI r x) l k) : (∃ h : k < l.length, l[k] = x) ↔ x ∈ l := by
  constructor
  · rintro ⟨h, e⟩
    exact e ▸ List.getElem_mem h
  · intro m
    obtain ⟨j, hj, e⟩ := List.mem_iff_getElem.mp m
    have kj : k ≤ j := by
      rcases Nat.lt_or_ge j k with q | q
      · have : ltI l[j] x = true := c.yes j hj q
        rw [e, ltI_irrefl] at this; cases this
      · exact q
    have hk : k < l.length := by omega
    refine ⟨hk, ?_⟩
    have n1 : ltI l[k] x = false := c.no k hk (Nat.le_refl _)
    have n2 := S.get hk hj kj
    rw [e] at n2
    exact ltI_total n1 n2

theorem ins_perm {l : List (List Int)} {x : List Int} (k : Nat) : (l.take k ++ x :: l.drop k).Perm (x :: l) := by
  have h := List.perm_middle (a := x) (l₁ := l.take k) (l₂ := l.drop k)
  rw [List.take_append_drop] at h
  exact h

theorem ins_sorted {l : List (List Int)} {x : List Int} {k : Nat} (S : SortedR l) (hk : k ≤ l.length) (h1 : ∀ i (h : i < l.length), i < k → ltI x l[i] = false) (h2 : ∀ i (h : i < l.length), k ≤ i → ltI l[i] x = false) :
    SortedR (l.take k ++ x :: l.drop k) := by
  have S' := S
  unfold SortedR at S' ⊢
  rw [← List.take_append_drop k l, List.pairwise_append] at S'
  obtain ⟨s1, s2, s3⟩ := S'
  rw [List.pairwise_append, List.pairwise_cons]
  refine ⟨s1, ⟨fun y hy => ?_, s2⟩, fun a ha b hb => ?_⟩
  · obtain ⟨j, hj, e⟩ := List.mem_iff_getElem.mp hy
    rw [List.getElem_drop] at e
    rw [← e]
    rw [List.length_drop] at hj
    exact h2 (k + j) (by omega) (by omega)
  · rcases List.mem_cons.mp hb with rfl | hb
    · obtain ⟨j, hj, e⟩ := List.mem_iff_getElem.mp ha
      rw [List.getElem_take] at e
      rw [List.length_take] at hj
      rw [← e]
      exact h1 j (by omega) (by omega)
    · exact s3 a ha b hb
theorem Cut.sortedL {l : List (List Int)} {x : List Int} {k : Nat} (S : SortedR l) (c : Cut (fun r => ltI r x) l k) : SortedR (l.take k ++ x :: l.drop k) :=
  ins_sorted S c.le (fun i h q => by
    have : ltI l[i] x = true := c.yes i h q
    cases p : ltI x l[i] with
    | false => rfl
    | true => have := ltI_trans this p; rw [ltI_irrefl] at this; cases this) fun i h q => c.no i h q
theorem Cut.sortedR {l : List (List Int)} {x : List Int} {k : Nat} (S : SortedR l) (c : Cut (fun r => !ltI x r) l k) : SortedR (l.take k ++ x :: l.drop k) :=
  ins_sorted S c.le (fun i h q => by have : (!ltI x l[i]) = true := c.yes i h q; simpa using this) fun i h q => by
    have : (!ltI x l[i]) = false := c.no i h q
    have this : ltI x l[i] = true := by simpa using this
    cases p : ltI l[i] x with
    | false => rfl
    | true => have := ltI_trans this p; rw [ltI_irrefl] at this; cases this

theorem sorted_uniq : ∀ {a b : List (List Int)}, a.Perm b → SortedR a → SortedR b → a = b
  | [], _, p, _, _ => p.nil_eq
  | x :: r, b, p, ha, hb => by
    cases b with
    | nil => exact absurd p.length_eq (by simp)
    | cons y t =>
      have hx : x ∈ y :: t := p.mem_iff.mp (.head _)
      have hy : y ∈ x :: r := p.mem_iff.mpr (.head _)
      have e : x = y := by
        rcases List.mem_cons.mp hx with h | h
        · exact h
        · rcases List.mem_cons.mp hy with h' | h'
          · exact h'.symm
          · exact ltI_total ((List.pairwise_cons.mp hb).1 x h) ((List.pairwise_cons.mp ha).1 y h')
      subst e
      rw [sorted_uniq (List.Perm.cons_inv p) (List.pairwise_cons.mp ha).2 (List.pairwise_cons.mp hb).2]
end Mine

theorem Mine.seen : PySem.Challenge.rw_tv0031_01 = PySem.Challenge.rw_tv0031_01 ∧ Mine.hd.heap_39 = Mine.hd.heap_39 := by k_fill; exact ⟨rfl, rfl⟩

/-! part B1 -/
namespace Mine
section
variable {prog : Program} {w : World} {A : Around} {E : Value → Shared → Prop} {s : Shared} {base : Heap} {fr : List Fram} {γ : Gh} {mu : List (Addr × MP)}
  {p : Program} {loose : List Str} {mg mb : Str → Option Value}
theorem bisectL {d u : Nat} {Q : Value → Shared → Prop} (S : St base fr γ mu s.heap) (AX : Ax A fr (d + 1) (u + 3)) (X : (Mine.hd.heap_39 w.params).In base) (T : TopRead p loose mg mb base)
   {a x : Addr} {vs xs : List Value} {rows : List (List Int)} {ns : List Int} {pos : List Value} {t : Tok} (hp : (pos = [.ref a, .ref x] ∧ t = 245) ∨ pos = [.ref a, .ref x, .int 0 t, .none])
   (ha : HL γ mu a vs) (hr : GRs γ vs rows) (hx : GL γ x xs.toArray) (hi : IntsAre xs ns) (hsz : vs.length ≤ sizeLine)
   (hd : Down (fun r => ltI r ns) rows)
   (ret : ∀ k t h' tk', Cut (fun r => ltI r ns) rows k → St base fr γ mu h' → Q (.int (k : Nat) t) { s with heap := h', toks := tk' }) : wpAny (model prog w) A (call (.ref 57) pos) Q E s := by
  k_dflt (refine' callP (binds := [("a", .ref a), ("x", .ref x), ("lo", .int 0 t), ("hi", .none), ("key", .none)]) S AX X T ?k6 ?k7 ?k9 ?kB ?_ ?c5 ?c2 ?c3 ?c4; (case k6 => k_is); (case k7 => k_is); (case k9 => (rcases hp with ⟨rfl, rfl⟩ | rfl <;> exact bindsPeek (X.keeps S.stays) (fun _ => by with_unfolding_all rfl))); (case kB => exact locs rfl); (case c5 => decide); (case c2 => exact rfl); (case c3 => exact rfl); (case c4 => exact rfl))
  intro L h₁ tk S' AX'
  clear S AX
  k_fold
  walk_at "m walk"
  rename St _ _ _ _ _ => S1
  refine whileX (fun env n h => ∃ m lo hi tl th, St base ((env, m) :: fr) γ mu h ∧ m "a" = some (.ref a) ∧ m "x" = some (.ref x) ∧ m "lo" = some (.int (lo : Nat) tl) ∧ m "hi" = some (.int (hi : Nat) th) ∧ n = hi - lo ∧ lo ≤ hi ∧ hi ≤ rows.length ∧
    (∀ i (h : i < rows.length), i < lo → ltI rows[i] ns = true) ∧ (∀ i (h : i < rows.length), hi ≤ i → ltI rows[i] ns = false)) ?_ rows.length
    ⟨_, 0, vs.length, _, _, S1, rfl, rfl, rfl, rfl, by rw [hr.length]; omega, Nat.zero_le _, by rw [hr.length]; exact Nat.le_refl _, fun i h q => absurd q (Nat.not_lt_zero _), fun i h q => by rw [hr.length] at q; omega⟩
  rintro n h' tk' ⟨m, lo, hi', tl, th, S2, e1, e2, e3, e4, en, l1, l2, c1, c2⟩
  clear S1
  have lr := hr.length
  walk_at "m walk"
  · rename_i hlt
    have hlt' : lo < hi' := by omega
    have hmid : ((lo : Int) + (hi' : Int)).fdiv 2 = (((lo + hi') / 2 : Nat) : Int) := by rw [Int.fdiv_eq_ediv_of_nonneg _ (by omega)]; omega
    have hmid1 : ((lo : Int) + (hi' : Int)).fdiv 2 + 1 = (((lo + hi') / 2 + 1 : Nat) : Int) := by rw [hmid]; rfl
    have b1 : (lo + hi') / 2 < vs.length := by omega
    obtain ⟨b2, b, eb, xb, gb, ib⟩ := hr.get _ b1
    rename St _ _ _ _ _ => S3
    refine opSub S3 ha (by rw [hmid]; omega) (by rw [hmid]; rw [sizeLine_eq] at hsz; omega) (by rw [hmid, Int.toNat_natCast, List.getElem?_eq_getElem b1, eb]) ?_
    walk_at "m walk"
    · rename (ltI _ _ = true) => hc
      rename St _ _ _ _ _ => S4
      refine ⟨_, _, _, rfl, ?_, _, (lo + hi') / 2 + 1, hi', _, _, S4, by walk_at "m val", by walk_at "m val", congrArg (fun z : Int => some (Value.int z _)) hmid1, by walk_at "m val", rfl, by omega, l2, ?_, c2⟩
      · omega
      · intro i h q
        rcases Nat.lt_or_ge i lo with z | z
        · exact c1 i h z
        · exact hd i _ h b2 (by omega) hc
    · rename (ltI _ _ = false) => hc
      rename St _ _ _ _ _ => S4
      refine ⟨_, _, _, rfl, ?_, _, lo, (lo + hi') / 2, _, _, S4, by walk_at "m val", by walk_at "m val", by walk_at "m val", congrArg (fun z : Int => some (Value.int z _)) hmid, rfl, by omega, by omega, c1, ?_⟩
      · omega
      · intro i h q
        cases z : ltI rows[i] ns with
        | false => rfl
        | true => exact absurd (hd _ i b2 h q z) (by show ¬ (ltI _ ns = true); rw [hc]; exact Bool.false_ne_true)
  · rename_i hlt
    have : hi' = lo := by omega
    subst this
    rename St _ _ _ _ _ => S4
    exact ret _ _ _ _ ⟨l2, c1, c2⟩ S4.pop
theorem bisectR {d u : Nat} {Q : Value → Shared → Prop} (S : St base fr γ mu s.heap) (AX : Ax A fr (d + 1) (u + 3)) (X : (Mine.hd.heap_39 w.params).In base) (T : TopRead p loose mg mb base)
   {a x : Addr} {vs xs : List Value} {rows : List (List Int)} {ns : List Int} {pos : List Value} {t : Tok} (hp : (pos = [.ref a, .ref x] ∧ t = 218) ∨ pos = [.ref a, .ref x, .int 0 t, .none])
   (ha : HL γ mu a vs) (hr : GRs γ vs rows) (hx : GL γ x xs.toArray) (hi : IntsAre xs ns) (hsz : vs.length ≤ sizeLine)
   (hd : Down (fun r => !ltI ns r) rows)
   (ret : ∀ k t h' tk', Cut (fun r => !ltI ns r) rows k → St base fr γ mu h' → Q (.int (k : Nat) t) { s with heap := h', toks := tk' }) : wpAny (model prog w) A (call (.ref 39) pos) Q E s := by
  k_dflt (refine' callP (binds := [("a", .ref a), ("x", .ref x), ("lo", .int 0 t), ("hi", .none), ("key", .none)]) S AX X T ?k6 ?k7 ?k9 ?kB ?_ ?c5 ?c2 ?c3 ?c4; (case k6 => k_is); (case k7 => k_is); (case k9 => (rcases hp with ⟨rfl, rfl⟩ | rfl <;> exact bindsPeek (X.keeps S.stays) (fun _ => by with_unfolding_all rfl))); (case kB => exact locs rfl); (case c5 => decide); (case c2 => exact rfl); (case c3 => exact rfl); (case c4 => exact rfl))
  intro L h₁ tk S' AX'
  clear S AX
  k_fold
  walk_at "m walk"
  rename St _ _ _ _ _ => S1
  refine whileX (fun env n h => ∃ m lo hi tl th, St base ((env, m) :: fr) γ mu h ∧ m "a" = some (.ref a) ∧ m "x" = some (.ref x) ∧ m "lo" = some (.int (lo : Nat) tl) ∧ m "hi" = some (.int (hi : Nat) th) ∧ n = hi - lo ∧ lo ≤ hi ∧ hi ≤ rows.length ∧
    (∀ i (h : i < rows.length), i < lo → ltI ns rows[i] = false) ∧ (∀ i (h : i < rows.length), hi ≤ i → ltI ns rows[i] = true)) ?_ rows.length
    ⟨_, 0, vs.length, _, _, S1, rfl, rfl, rfl, rfl, by rw [hr.length]; omega, Nat.zero_le _, by rw [hr.length]; exact Nat.le_refl _, fun i h q => absurd q (Nat.not_lt_zero _), fun i h q => by rw [hr.length] at q; omega⟩
  rintro n h' tk' ⟨m, lo, hi', tl, th, S2, e1, e2, e3, e4, en, l1, l2, c1, c2⟩
  clear S1
  have lr := hr.length
  walk_at "m walk"
  · rename_i hlt
    have hlt' : lo < hi' := by omega
    have hmid : ((lo : Int) + (hi' : Int)).fdiv 2 = (((lo + hi') / 2 : Nat) : Int) := by rw [Int.fdiv_eq_ediv_of_nonneg _ (by omega)]; omega
    have hmid1 : ((lo : Int) + (hi' : Int)).fdiv 2 + 1 = (((lo + hi') / 2 + 1 : Nat) : Int) := by rw [hmid]; rfl
    have b1 : (lo + hi') / 2 < vs.length := by omega
    obtain ⟨b2, b, eb, xb, gb, ib⟩ := hr.get _ b1
    rename St _ _ _ _ _ => S3
    refine opSub S3 ha (by rw [hmid]; omega) (by rw [hmid]; rw [sizeLine_eq] at hsz; omega) (by rw [hmid, Int.toNat_natCast, List.getElem?_eq_getElem b1, eb]) ?_
    walk_at "m walk"
    · rename (ltI _ _ = true) => hc
      rename St _ _ _ _ _ => S4
      refine ⟨_, _, _, rfl, ?_, _, lo, (lo + hi') / 2, _, _, S4, by walk_at "m val", by walk_at "m val", by walk_at "m val", congrArg (fun z : Int => some (Value.int z _)) hmid, rfl, by omega, by omega, c1, ?_⟩
      · omega
      · intro i h q
        cases z : ltI ns rows[i] with
        | true => rfl
        | false => exact absurd (hd _ i b2 h q (by show (!ltI ns rows[i]) = true; rw [z]; rfl)) (by show ¬ ((!ltI ns _) = true); rw [hc]; exact Bool.false_ne_true)
    · rename (ltI _ _ = false) => hc
      rename St _ _ _ _ _ => S4
      refine ⟨_, _, _, rfl, ?_, _, (lo + hi') / 2 + 1, hi', _, _, S4, by walk_at "m val", by walk_at "m val", congrArg (fun z : Int => some (Value.int z _)) hmid1, by walk_at "m val", rfl, by omega, l2, ?_, c2⟩
      · omega
      · intro i h q
        rcases Nat.lt_or_ge i lo with z | z
        · exact c1 i h z
        · have := hd i _ h b2 (by omega) (by show (!ltI ns _) = true; rw [hc]; rfl)
          cases y : ltI ns rows[i] with
          | false => rfl
          | true => have y' : (!ltI ns rows[i]) = true := this; rw [y] at y'; cases y'
  · rename_i hlt
    have : hi' = lo := by omega
    subst this
    rename St _ _ _ _ _ => S4
    exact ret _ _ _ _ ⟨l2, fun i h q => by show (!ltI ns rows[i]) = true; rw [c1 i h q]; rfl, fun i h q => by show (!ltI ns rows[i]) = false; rw [c2 i h q]; rfl⟩ S4.pop
end
end Mine

/-! part B2 -/
namespace Mine
section
variable {prog : Program} {w : World} {A : Around} {E : Value → Shared → Prop} {s : Shared} {base : Heap} {fr : List Fram} {γ : Gh} {mu : List (Addr × MP)}
  {p : Program} {loose : List Str} {mg mb : Str → Option Value}
theorem insortL {d u : Nat} {Q : Value → Shared → Prop} (S : St base fr γ mu s.heap) (AX : Ax A fr (d + 2) (u + 6)) (X : (Mine.hd.heap_39 w.params).In base) (T : TopRead p loose mg mb base)
   {a x : Addr} {i : Nat} {vs xs : List Value} {rows : List (List Int)} {ns : List Int}
   (hi : mu[i]? = some (a, Lst vs.toArray)) (hr : GRs γ vs rows) (hx : GL γ x xs.toArray) (hxi : IntsAre xs ns) (hsz : vs.length ≤ sizeLine)
   (hd : Down (fun r => ltI r ns) rows)
   (ret : ∀ k h' tk', Cut (fun r => ltI r ns) rows k → St base fr γ (mu.set i (a, Lst (vs.take k ++ .ref x :: vs.drop k).toArray)) h' → Q .none { s with heap := h', toks := tk' }) : wpAny (model prog w) A (call (.ref 48) [.ref a, .ref x]) Q E s := by
  k_dflt (refine' callP (binds := [("a", .ref a), ("x", .ref x), ("lo", .int 0 232), ("hi", .none), ("key", .none)]) S AX X T ?k6 ?k7 ?k9 ?kB ?_ ?c5 ?c2 ?c3 ?c4; (case k6 => k_is); (case k7 => k_is); (case k9 => exact bindsPeek (X.keeps S.stays) (fun _ => by with_unfolding_all rfl)); (case kB => exact locs rfl); (case c5 => decide); (case c2 => exact rfl); (case c3 => exact rfl); (case c4 => exact rfl))
  intro L h₁ tk S' AX'
  clear S AX
  k_fold
  have ha : HL γ mu a vs := HL.mut (List.mem_of_getElem? hi)
  walk_at "m walk"
  rename St _ _ _ _ _ => S1
  refine bisectL S1 AX' X T (t := 232) (.inr rfl) ha hr hx hxi hsz hd ?_
  intro k t h2 tk2 hk S2
  clear S1
  walk_at "m walk"
  rename St _ _ _ _ _ => S3
  refine opInsert (k := k) S3 hi rfl (by rw [hr.length]; exact hk.le) hsz ?_
  intro h4 tk4 S4
  walk_at "m walk"
  exact ret _ _ _ hk S4.pop
theorem insortR {d u : Nat} {Q : Value → Shared → Prop} (S : St base fr γ mu s.heap) (AX : Ax A fr (d + 2) (u + 6)) (X : (Mine.hd.heap_39 w.params).In base) (T : TopRead p loose mg mb base)
   {a x : Addr} {i : Nat} {vs xs : List Value} {rows : List (List Int)} {ns : List Int}
   (hi : mu[i]? = some (a, Lst vs.toArray)) (hr : GRs γ vs rows) (hx : GL γ x xs.toArray) (hxi : IntsAre xs ns) (hsz : vs.length ≤ sizeLine)
   (hd : Down (fun r => !ltI ns r) rows)
   (ret : ∀ k h' tk', Cut (fun r => !ltI ns r) rows k → St base fr γ (mu.set i (a, Lst (vs.take k ++ .ref x :: vs.drop k).toArray)) h' → Q .none { s with heap := h', toks := tk' }) : wpAny (model prog w) A (call (.ref 30) [.ref a, .ref x]) Q E s := by
  k_dflt (refine' callP (binds := [("a", .ref a), ("x", .ref x), ("lo", .int 0 205), ("hi", .none), ("key", .none)]) S AX X T ?k6 ?k7 ?k9 ?kB ?_ ?c5 ?c2 ?c3 ?c4; (case k6 => k_is); (case k7 => k_is); (case k9 => exact bindsPeek (X.keeps S.stays) (fun _ => by with_unfolding_all rfl)); (case kB => exact locs rfl); (case c5 => decide); (case c2 => exact rfl); (case c3 => exact rfl); (case c4 => exact rfl))
  intro L h₁ tk S' AX'
  clear S AX
  k_fold
  have ha : HL γ mu a vs := HL.mut (List.mem_of_getElem? hi)
  walk_at "m walk"
  rename St _ _ _ _ _ => S1
  refine bisectR S1 AX' X T (t := 205) (.inr rfl) ha hr hx hxi hsz hd ?_
  intro k t h2 tk2 hk S2
  clear S1
  walk_at "m walk"
  rename St _ _ _ _ _ => S3
  refine opInsert (k := k) S3 hi rfl (by rw [hr.length]; exact hk.le) hsz ?_
  intro h4 tk4 S4
  walk_at "m walk"
  exact ret _ _ _ hk S4.pop
end
end Mine

/-! part B3 -/
namespace Mine
section
variable {prog : Program} {w : World} {A : Around} {E : Value → Shared → Prop} {s : Shared} {base : Heap} {fr : List Fram} {γ : Gh} {mu : List (Addr × MP)}
  {p : Program} {loose : List Str} {mg mb : Str → Option Value}
theorem insortL' {d u : Nat} {Q : Value → Shared → Prop} (S : St base fr γ mu s.heap) (AX : Ax A fr (d + 2) (u + 6)) (X : (Mine.hd.heap_39 w.params).In base) (T : TopRead p loose mg mb base)
   {a x : Addr} {i : Nat} {vs xs : List Value} {rows : List (List Int)} {ns : List Int}
   (hi : mu[i]? = some (a, Lst vs.toArray)) (hr : GRs γ vs rows) (hx : GL γ x xs.toArray) (hxi : IntsAre xs ns) (hsz : vs.length ≤ sizeLine) (so : SortedR rows)
   (ret : ∀ vs' rows' h' tk', GRs γ vs' rows' → SortedR rows' → rows'.Perm (ns :: rows) → St base fr γ (mu.set i (a, Lst vs'.toArray)) h' → Q .none { s with heap := h', toks := tk' }) : wpAny (model prog w) A (call (.ref 48) [.ref a, .ref x]) Q E s :=
  insortL S AX X T hi hr hx hxi hsz (so.downL ns) fun k h' tk' c S' => ret _ _ h' tk' ((hr.take k).append (.cons ⟨xs, hx, hxi⟩ (hr.drop k))) (c.sortedL so) (ins_perm k) S'
theorem insortR' {d u : Nat} {Q : Value → Shared → Prop} (S : St base fr γ mu s.heap) (AX : Ax A fr (d + 2) (u + 6)) (X : (Mine.hd.heap_39 w.params).In base) (T : TopRead p loose mg mb base)
   {a x : Addr} {i : Nat} {vs xs : List Value} {rows : List (List Int)} {ns : List Int}
   (hi : mu[i]? = some (a, Lst vs.toArray)) (hr : GRs γ vs rows) (hx : GL γ x xs.toArray) (hxi : IntsAre xs ns) (hsz : vs.length ≤ sizeLine) (so : SortedR rows)
   (ret : ∀ vs' rows' h' tk', GRs γ vs' rows' → SortedR rows' → rows'.Perm (ns :: rows) → St base fr γ (mu.set i (a, Lst vs'.toArray)) h' → Q .none { s with heap := h', toks := tk' }) : wpAny (model prog w) A (call (.ref 30) [.ref a, .ref x]) Q E s :=
  insortR S AX X T hi hr hx hxi hsz (so.downR ns) fun k h' tk' c S' => ret _ _ h' tk' ((hr.take k).append (.cons ⟨xs, hx, hxi⟩ (hr.drop k))) (c.sortedR so) (ins_perm k) S'
theorem among {d u : Nat} {Q : Value → Shared → Prop} (S : St base fr γ mu s.heap) (AX : Ax A fr (d + 2) (u + 70)) (X : (Mine.hd.heap_39 w.params).In base) (T : TopRead p loose mg mb base)
   {a x : Addr} {vs xs : List Value} {rows : List (List Int)} {ns : List Int}
   (ha : HL γ mu a vs) (hr : GRs γ vs rows) (hx : GL γ x xs.toArray) (hxi : IntsAre xs ns) (hsz : vs.length ≤ sizeLine) (so : SortedR rows)
   (ret : ∀ h' tk', St base fr γ mu h' → Q (.bool (decide (ns ∈ rows))) { s with heap := h', toks := tk' }) : wpAny (model prog w) A (call (.ref 83) [.ref a, .ref x]) Q E s := by
  k_dflt (refine' callP (d := d + 1) (u := u + 67) (binds := [("row", .ref a), ("members", .ref x)]) S AX X T ?k6 ?k7 ?k9 ?kB ?_ ?c5 ?c2 ?c3 ?c4; (case k6 => k_is); (case k7 => k_is); (case k9 => exact BindsTo.of_eq rfl); (case kB => exact locs rfl); (case c5 => decide); (case c2 => exact rfl); (case c3 => exact rfl); (case c4 => exact rfl))
  intro L h₁ tk S' AX'
  clear S AX
  k_fold
  walk_at "m walk"
  rename St _ _ _ _ _ => S1
  refine bisectL S1 (AX'.le (d' := d + 1) (u' := u + 3) (by omega) (by omega)) X T (t := 245) (.inl ⟨rfl, rfl⟩) ha hr hx hxi hsz (so.downL ns) ?_
  intro k t h2 tk2 hk S2
  clear S1
  walk_at "m walk"
  · have hk1 : k < vs.length := by omega
    obtain ⟨hk2, b, eb, xb, gb, ib⟩ := hr.get k hk1
    rename St _ _ _ _ _ => S3
    refine opSub S3 ha (by omega) (by rw [sizeLine_eq] at hsz; omega) (by rw [Int.toNat_natCast, List.getElem?_eq_getElem hk1, eb]) ?_
    walk_at "m walk"
    rename St _ _ _ _ _ => S4
    have e : decide (rows[k] = ns) = decide (ns ∈ rows) := decide_eq_decide.mpr ⟨fun q => (Cut.mem so hk).mp ⟨hk2, q⟩, fun q => ((Cut.mem so hk).mpr q).2⟩
    have := fun tk => ret _ tk S4.pop
    rw [← e] at this
    exact this _
  · rename St _ _ _ _ _ => S4
    have e : decide (ns ∈ rows) = false := decide_eq_false fun q => by
      have := ((Cut.mem so hk).mpr q).1
      rw [hr.length] at *
      omega
    have := fun tk => ret _ tk S4.pop
    rw [e] at this
    have e2 : decide ((k : Int) < (vs.length : Int)) = false := decide_eq_false (by assumption)
    show Q (.bool (decide ((k : Int) < (vs.length : Int)))) _
    rw [e2]
    exact this _
end
end Mine

/-! part F7 -/
namespace Mine

section
variable {base : Heap} {fr : List Fram} {γ γ' : Gh} {mu : List (Addr × MP)} {h h' : Heap} {a : Addr} {P P' : MP}
/-- all but the head keeps standing; the head is let go of -/
theorem St.loseHead (S : St base fr γ ((a, P) :: mu) h) (k : ∀ b o, b ≠ a → h.get? b = some o → h'.get? b = some o) : St base fr γ mu h' := by
  have hz := (S.mus (a, P) (.head _)).2
  refine ⟨S.bs, fun b o e => k b o (fun q => ?_) (S.sub b o e), fun p hp => ⟨(S.frs p hp).1, ?_, (S.frs p hp).2.2⟩, fun p hp => ?_, S.drop.nd⟩
  · rw [q] at e; dsimp only at hz; rw [hz] at e; cases e
  · obtain ⟨o, es, ep, ho, r⟩ := (S.frs p hp).2.1
    exact ⟨o, es, ep, k _ _ (S.mem_apart (.head _) hp) ho, r⟩
  · obtain ⟨⟨o, ho, r⟩, z⟩ := S.mus p (.tail _ hp)
    refine ⟨⟨o, k _ _ (fun q => ?_) ho, r⟩, z⟩
    have nd := (List.nodup_append.mp S.nd).2.1
    rw [List.map_cons, List.nodup_cons] at nd
    exact nd.1 (by have := List.mem_map_of_mem (f := fun p : Addr × MP => p.1) hp; rw [q] at this; exact this)
theorem St.rot3 {x y z : Addr × MP} (S : St base fr γ (x :: y :: z :: mu) h) : St base fr γ (z :: x :: y :: mu) h :=
  S.perm ((List.Perm.cons x (List.Perm.swap z y mu)).trans (List.Perm.swap z x (y :: mu)))
theorem St.unrot3 {x y z : Addr × MP} (S : St base fr γ (z :: x :: y :: mu) h) : St base fr γ (x :: y :: z :: mu) h :=
  S.perm ((List.Perm.swap x z (y :: mu)).trans (List.Perm.cons x (List.Perm.swap y z mu)))
theorem St.swap {x y : Addr × MP} (S : St base fr γ (x :: y :: mu) h) : St base fr γ (y :: x :: mu) h := S.perm (List.Perm.swap y x mu)
end

def RIt (x left : Int) : MP := fun o => o = { cls := .type "range_iterator", dict := none, data := .fields #[rawInt x, rawInt left, rawInt 1], slots := #[] }

/-- an iterator of n items -/
structure Gen (prog : Program) (w : World) (A : Around) (base : Heap) (γ₀ : Gh) (it : Addr) (J : Nat → MP) (n : Nat) (P : Nat → Value → Prop) : Prop where
  item : ∀ fr γ mu (s : Shared) E (Q : Option Value → Shared → Prop) i, i < n → γ₀.Le γ → St base fr γ ((it, J i) :: mu) s.heap →
    (∀ v h' tk', P i v → St base fr γ ((it, J (i + 1)) :: mu) h' → Q (some v) { s with heap := h', toks := tk' }) → wpAny (model prog w) A (pyNext (.ref it)) Q E s
  done : ∀ fr γ mu (s : Shared) E (Q : Option Value → Shared → Prop), γ₀.Le γ → St base fr γ ((it, J n) :: mu) s.heap →
    (∀ h' tk', St base fr γ mu h' → Q none { s with heap := h', toks := tk' }) → wpAny (model prog w) A (pyNext (.ref it)) Q E s
  self : ∀ fr γ mu (s : Shared) E (Q : Value → Shared → Prop) i, St base fr γ ((it, J i) :: mu) s.heap → Q (.ref it) s → wpAny (model prog w) A (pyIter (.ref it)) Q E s

section
variable {prog : Program} {w : World} {A : Around} {E : Value → Shared → Prop} {s : Shared} {base : Heap} {fr : List Fram} {γ γ₀ : Gh} {mu : List (Addr × MP)} {l it : Addr} {vs : List Value}

theorem Gen.list (hA : A.handled = none) (hl : GL γ₀ l vs.toArray) : Gen prog w A base γ₀ it (LIt l) vs.length (fun i v => vs[i]? = some v) where
  item := fun fr γ mu s E Q i hi le S h => by
    obtain ⟨o, ho, e⟩ := (S.mus _ (.head _)).1
    refine wpAny_pyNext_list_item (x := vs[i]) ⟨o, ho, e.1, e.2⟩ (S.isList (hl.le le)) (by simp [hi]) fun h' hit hs => ?_
    obtain ⟨o', ho', e1, e2⟩ := hit
    exact h _ h' s.toks (by simp [hi]) (S.setHead (fun b o q e => (hs.2 b q).trans e) ⟨o', ho', e1, e2⟩)
  done := fun fr γ mu s E Q le S h => by
    obtain ⟨o, ho, e⟩ := (S.mus _ (.head _)).1
    exact wpAny_pyNext_list_end hA ⟨o, ho, e.1, e.2⟩ (S.isList (hl.le le)) (by simp) fun h' he => h h' s.toks (S.loseHead fun b o q e => he b o q e)
  self := fun fr γ mu s E Q i S h => by
    obtain ⟨o, ho, e⟩ := (S.mus _ (.head _)).1
    exact wpAny_pyIter_listiter ⟨o, ho, e.1, e.2⟩ h

theorem Gen.range (hA : A.handled = none) (n : Nat) : Gen prog w A base γ₀ it (fun i => RIt (i : Int) ((n : Int) - i)) n (fun i v => ∃ t, v = .int (i : Int) t) where
  item := fun fr γ mu s E Q i hi le S h => by
    obtain ⟨o, ho, e⟩ := (S.mus _ (.head _)).1
    subst e
    refine wpAny_pyNext_range_item ho (by omega) fun h' hit hs => ?_
    refine h _ h' _ ⟨_, rfl⟩ (S.setHead (fun b o q e => (hs.2 b q).trans e) ⟨_, hit, ?_⟩)
    have e1 : (n : Int) - ((i + 1 : Nat) : Int) = (n : Int) - i - 1 := by omega
    show _ = _
    rw [e1]; rfl
  done := fun fr γ mu s E Q le S h => by
    obtain ⟨o, ho, e⟩ := (S.mus _ (.head _)).1
    subst e
    exact wpAny_pyNext_range_end hA ho (by omega) fun h' he => h h' s.toks (S.loseHead fun b o q e => he b o q e)
  self := fun fr γ mu s E Q i S h => by
    obtain ⟨o, ho, e⟩ := (S.mus _ (.head _)).1
    subst e
    exact wpAny_pyIter_rangeiter ho h

theorem iterList {Q : Value → Shared → Prop} (S : St base fr γ mu s.heap) (hA : A.handled = none) (hl : GL γ l vs.toArray)
    (h : ∀ it h' tk', Gen prog w A base γ it (LIt l) vs.length (fun i v => vs[i]? = some v) → St base fr γ ((it, LIt l 0) :: mu) h' → Q (.ref it) { s with heap := h', toks := tk' }) :
    wpAny (model prog w) A (pyIter (.ref l)) Q E s :=
  wpAny_pyIter_list (S.isList hl) (h _ _ s.toks (Gen.list hA hl) (S.new (fun _ _ e => Heap.get?_push_of_some _ e) (Heap.get?_none_of_le (Nat.le_refl _)) (Heap.get?_push_size _ rfl) ⟨rfl, rfl⟩))

def RG (γ : Gh) (r : Addr) (n : Nat) : Prop := ∃ t u v, γ r = some { cls := .type "range", dict := none, data := .fields #[.int 0 t, .int (n : Int) u, .int 1 v], slots := #[] }
theorem RG.le {γ γ' : Gh} {r : Addr} {n : Nat} (x : RG γ r n) (l : γ.Le γ') : RG γ' r n := let ⟨t, u, v, e⟩ := x; ⟨t, u, v, l _ _ e⟩
theorem opRange {n : Nat} {t : Tok} {Q : Value → Shared → Prop} (S : St base fr γ mu s.heap)
    (h : ∀ r γ' h' tk', γ.Le γ' → RG γ' r n → St base fr γ' mu h' → Q (.ref r) { s with heap := h', toks := tk' }) : wpAny (model prog w) A (call (.type "range") [.int (n : Int) t]) Q E s := by
  refine call_range_1 ?_
  obtain ⟨γ', L, e, S'⟩ := S.newFrozen (o := { cls := .type "range", data := .fields #[.int 0 s.toks, .int (n : Int) t, .int 1 (s.toks + 1)] }) (h' := s.heap.push { cls := .type "range", data := .fields #[.int 0 s.toks, .int (n : Int) t, .int 1 (s.toks + 1)] }) (fun _ _ e => Heap.get?_push_of_some _ e) (Heap.get?_none_of_le (Nat.le_refl _)) (Heap.get?_push_size _ rfl)
  exact h _ _ _ _ L ⟨_, _, _, e⟩ S'
theorem iterRange {n : Nat} {r : Addr} {Q : Value → Shared → Prop} (S : St base fr γ mu s.heap) (hA : A.handled = none) (hr : RG γ r n) (hn : n ≤ sizeLine)
    (h : ∀ it h' tk', Gen prog w A base γ it (fun i => RIt (i : Int) ((n : Int) - i)) n (fun i v => ∃ t, v = .int (i : Int) t) → St base fr γ ((it, RIt 0 n) :: mu) h' → Q (.ref it) { s with heap := h', toks := tk' }) :
    wpAny (model prog w) A (pyIter (.ref r)) Q E s := by
  obtain ⟨t, u, v, e⟩ := hr
  rw [sizeLine_eq] at hn
  refine wpAny_pyIter_range (S.sub _ _ e) (small_one (by omega) (by omega) (by omega) (by omega)) ?_
  refine h _ _ s.toks (Gen.range hA n) (S.new (fun _ _ e => Heap.get?_push_of_some _ e) (Heap.get?_none_of_le (Nat.le_refl _)) (Heap.get?_push_size _ rfl) ?_)
  have e2 : Builtin.Range.rangeSize 0 (n : Int) 1 = (n : Int) := by rw [rangeSize_one]; split <;> omega
  show _ = _
  rw [e2]

/-- a for over an iterator, by an invariant -/
theorem forG {x : Str} {px : Pos} {body : List Stmt} {env : Env} {m : Str → Option Value} {R : Result → Shared → Prop} {J : Nat → MP} {n : Nat} {P : Nat → Value → Prop}
    (G : Gen prog w A base γ it J n P) (S : St base ((env, m) :: fr) γ ((it, J 0) :: mu) s.heap) (hx : env.kindOf x = some .local)
    (I : Nat → (Str → Option Value) → Gh → List (Addr × MP) → Prop) (i0 : I 0 m γ mu)
    (turn : ∀ i v m' γ' mu' h' tk', i < n → γ.Le γ' → I i m' γ' mu' → P i v → St base ((env, fun y => if y = x then some v else m' y) :: fr) γ' ((it, J (i + 1)) :: mu') h' →
      wpAny (model prog w) A (execs body env) (fun f s₃ => match f with
        | .next | .cont => ∃ m2 γ2 mu2 h2 tk2, s₃ = { s with heap := h2, toks := tk2 } ∧ γ'.Le γ2 ∧ I (i + 1) m2 γ2 mu2 ∧ St base ((env, m2) :: fr) γ2 ((it, J (i + 1)) :: mu2) h2
        | .brk => R (.ok .next) s₃
        | .ret v => R (.ok (.ret v)) s₃) (notedBy (model prog w) A env fun e s' => R (.error e) s') { s with heap := h', toks := tk' })
    (fin : ∀ m' γ' mu' h' tk', γ.Le γ' → I n m' γ' mu' → St base ((env, m') :: fr) γ' mu' h' → R (.ok .next) { s with heap := h', toks := tk' }) :
    codeAny (model prog w) A (.forLoop (.Name x px) (.ref it) body [] env) R s := by
  refine codeAny_forLoop (fun k s' => ∃ i m' γ' mu' h' tk', s' = { s with heap := h', toks := tk' } ∧ i ≤ n ∧ k = n - i ∧ γ.Le γ' ∧ I i m' γ' mu' ∧ St base ((env, m') :: fr) γ' ((it, J i) :: mu') h') ?_ n
    ⟨0, m, γ, mu, s.heap, s.toks, rfl, Nat.zero_le _, rfl, Gh.Le.rfl, i0, S⟩
  rintro k s' ⟨i, m', γ', mu', h', tk', rfl, hi, rfl, le, hI, S'⟩
  rcases Nat.lt_or_eq_of_le hi with hlt | rfl
  · refine G.item _ _ _ _ _ _ i hlt le S' fun v h1 tk1 hP S1 => ?_
    refine wpAny_assign_Name (stL S1 (fun h2 tk2 S2 => ?_) hx)
    refine wpAny_mono (turn i v m' γ' mu' h2 tk2 hlt le hI hP S2) (fun f s₃ h₃ => ?_) fun _ _ e => e
    cases f with
    | next => obtain ⟨m2, γ2, mu2, h4, tk4, e, l2, i2, S4⟩ := h₃; exact ⟨n - (i + 1), by omega, i + 1, m2, γ2, mu2, h4, tk4, e, hlt, rfl, le.trans l2, i2, S4⟩
    | cont => obtain ⟨m2, γ2, mu2, h4, tk4, e, l2, i2, S4⟩ := h₃; exact ⟨n - (i + 1), by omega, i + 1, m2, γ2, mu2, h4, tk4, e, hlt, rfl, le.trans l2, i2, S4⟩
    | brk => exact h₃
    | ret v => exact h₃
  · refine G.done _ _ _ _ _ _ le S' fun h1 tk1 S1 => wpAny_execs_nil (fin m' γ' mu' h1 tk1 le hI S1)

/-- the block of a comprehension over one iterator -/
theorem compG {elt iter : PySem.Expr} {x : Str} {px : Pos} {ifs : List PySem.Expr} {scope : Scope} {cl : List (Str × Addr)} {pos : Pos} {env : Env} {J : Nat → MP} {n : Nat} {P : Nat → Value → Prop} {RR : Value → Addr → Result → Shared → Prop}
    (G : Gen prog w A base γ it J n P) (S : St base fr γ ((it, J 0) :: mu) s.heap) (hcell : ∀ y ∈ scope.names, y.2 ≠ .cell) (hkind : scope.kind = .function) (hx : scope.names.lookup x = some .local) (hsz : n ≤ sizeLine)
    (I : Nat → Gh → List (Addr × MP) → List Value → Prop) (i0 : I 0 γ mu [])
    (test : ∀ i v C D mc γ' mu' acc h' tk' E', i < n → acc.length ≤ i → γ.Le γ' → I i γ' mu' acc → P i v → mc x = some v → St base fr γ' ((C, NsP mc) :: (D, Lst acc.toArray) :: (it, J (i + 1)) :: mu') h' →
      wpAny (model prog w) A (forIn ifs true fun c r => if r = true then do let ok ← isTrue c (compEnvC scope cl C env) (eval c (compEnvC scope cl C env)); pure (ForInStep.yield ok) else pure (ForInStep.yield r))
        (fun ok s₃ => ∃ γ2 mu2 mc2 h2 tk2, s₃ = { s with heap := h2, toks := tk2 } ∧ γ'.Le γ2 ∧ mc2 x = some v ∧ St base fr γ2 ((C, NsP mc2) :: (D, Lst acc.toArray) :: (it, J (i + 1)) :: mu2) h2 ∧
          if ok = true then wpAny (model prog w) A (eval elt (compEnvC scope cl C env)) (fun y s₄ => ∃ γ3 mu3 mc3 h3 tk3, s₄ = { s with heap := h3, toks := tk3 } ∧ γ2.Le γ3 ∧ St base fr γ3 ((C, NsP mc3) :: (D, Lst acc.toArray) :: (it, J (i + 1)) :: mu3) h3 ∧ I (i + 1) γ3 mu3 (acc ++ [y])) E' s₃
          else I (i + 1) γ2 mu2 acc) E' { s with heap := h', toks := tk' })
    (fin : ∀ C D mc γ' mu' acc h' tk', acc.length ≤ n → γ.Le γ' → I n γ' mu' acc → St base fr γ' ((C, NsP mc) :: (D, Lst acc.toArray) :: mu') h' → RR (.ref D) C (.ok .next) { s with heap := h', toks := tk' }) :
    wpAny (model prog w) A (newList []) (fun acc s₃ => wpAny (model prog w) A (newFunctionEnv scope env.globals cl [] env.qual none .none (some env)) (fun cenv s₄ =>
      codeAny (model prog w) A (.compStart (.ListComp elt [⟨.Name x px, iter, ifs, 0⟩] scope pos) 0 (.ref it) acc { cenv with scope := relabel scope env }) (RR acc cenv.locals) s₄) E s₃) E s := by
  refine newListM S (fun D h0 tk0 S0 => ?_) (Nat.zero_le _)
  refine wpAny_newFunctionEnv hcell (by intro y hy; simp at hy) (fun h₁ hns₁ hsb₁ => ?_) hkind
  have S1 : St base fr γ ((h0.objs.size, NsP fun x => List.lookup x ([] : List (Str × Value)).reverse) :: (D, Lst ([] : List Value).toArray) :: (it, J 0) :: mu) h₁ := by
    obtain ⟨o, ho, hP⟩ := nsP_of.mp hns₁
    exact S0.new (fun b o e => hsb₁.extBut b o (Nat.ne_of_lt (Heap.lt_size e)) (Heap.get?_push_of_some _ e)) (Heap.get?_none_of_le (Nat.le_refl _)) ho hP
  have loop : ∀ s₃ : Shared, s₃ = { s with heap := h₁, toks := tk0 + ([] : List (Str × Value)).length } →
      codeAny (model prog w) A (.compLoop (.ListComp elt [⟨.Name x px, iter, ifs, 0⟩] scope pos) 0 (.ref it) (.ref D) (compEnvC scope cl h0.objs.size env)) (RR (.ref D) h0.objs.size) s₃ := by
    rintro s₃ rfl
    refine codeAny_compLoop_tests (fun k s' => ∃ i mc γ' mu' acc h' tk', s' = { s with heap := h', toks := tk' } ∧ i ≤ n ∧ k = n - i ∧ acc.length ≤ i ∧ γ.Le γ' ∧ I i γ' mu' acc ∧ St base fr γ' ((h0.objs.size, NsP mc) :: (D, Lst acc.toArray) :: (it, J i) :: mu') h') ?_ n
      ⟨0, _, γ, mu, [], h₁, _, rfl, Nat.zero_le _, rfl, Nat.zero_le _, Gh.Le.rfl, i0, S1⟩
    rintro k s' ⟨i, mc, γ', mu', acc, h', tk', rfl, hi, rfl, ha, le, hI, S'⟩
    rcases Nat.lt_or_eq_of_le hi with hlt | rfl
    · refine G.item _ _ _ _ _ _ i hlt le S'.rot3 fun v h1 tk1 hP S2 => ?_
      refine wpAny_assign_Name (stI (cenv := compEnvC scope cl h0.objs.size env) S2.unrot3 (fun h2 tk2 S3 => ?_) (by simp [compEnvC, relabel, hkind]) (lookup_relabel_local hx))
      refine wpAny_mono (test i v _ D _ γ' mu' acc h2 tk2 _ hlt ha le hI hP (if_pos rfl) S3) (fun ok s₃ h₃ => ?_) fun _ _ e => e
      obtain ⟨γ2, mu2, mc2, h4, tk4, rfl, l2, hm, S4, hok⟩ := h₃
      cases ok with
      | false =>
        simp only [Bool.false_eq_true, if_false] at hok ⊢
        exact ⟨n - (i + 1), by omega, i + 1, mc2, γ2, mu2, acc, h4, tk4, rfl, hlt, rfl, by omega, le.trans l2, hok, S4⟩
      | true =>
        simp only [if_true] at hok ⊢
        refine wpAny_mono hok (fun y s₄ h₄ => ?_) fun _ _ e => e
        obtain ⟨γ3, mu3, mc3, h5, tk5, rfl, l3, S5, hI3⟩ := h₄
        refine opAppend (i := 1) S5 rfl (by omega) fun h6 tk6 S6 => ?_
        exact ⟨n - (i + 1), by omega, i + 1, mc3, γ3, mu3, acc ++ [y], h6, tk6, rfl, hlt, rfl, by simp; omega, (le.trans l2).trans l3, hI3, S6⟩
    · exact G.done _ _ _ _ _ _ le S'.rot3 fun h1 tk1 S2 => fin _ D mc γ' mu' acc h1 tk1 ha le hI S2
  exact codeAny_compStart_list (loop _ rfl) (G.self _ _ _ _ _ _ 0 S1.rot3 (loop _ rfl))
end
end Mine

/-! part F8 -/
namespace Mine
theorem St.addCells {base : Heap} {fr : List Fram} {γ : Gh} {mu : List (Addr × MP)} {h h' : Heap} {cm : Str → Option Value} (k : ∀ b o, h.get? b = some o → h'.get? b = some o) :
    ∀ (cs : List (Str × Addr)), (∀ n c, (n, c) ∈ cs → h'.IsCell c (cm n) ∧ h.get? c = none) → (cs.Pairwise fun x y => x.2 ≠ y.2) → St base fr γ mu h → (∀ c ∈ cs, ∀ p ∈ mu, p.1 ≠ c.2) → (∀ c ∈ cs, ∀ p ∈ fr, p.1.locals ≠ c.2) →
      St base fr γ (cs.map (fun x => (x.2, Cel (cm x.1))) ++ mu) h'
  | [], _, _, S, _, _ => S.grow k
  | (n, c) :: r, hc, ap, S, hm, hf => by
    have ap' := List.pairwise_cons.mp ap
    have S' := St.addCells k r (fun n c hm => hc n c (.tail _ hm)) ap'.2 S (fun x hx => hm x (.tail _ hx)) fun x hx => hf x (.tail _ hx)
    obtain ⟨⟨o, ho, hd⟩, hn⟩ := hc n c (.head _)
    refine ⟨S'.bs, S'.sub, S'.frs, fun p hp => ?_, ?_⟩
    · rcases List.mem_cons.mp hp with rfl | hp'
      · exact ⟨⟨o, ho, hd⟩, S.none_fresh hn⟩
      · exact S'.mus p hp'
    · refine List.nodup_append.mpr ⟨(List.nodup_append.mp S'.nd).1, ?_, ?_⟩
      · show (c :: List.map _ _).Nodup
        rw [List.nodup_cons]
        refine ⟨fun q => ?_, (List.nodup_append.mp S'.nd).2.1⟩
        have q : c ∈ List.map (·.1) (r.map (fun x => (x.2, Cel (cm x.1))) ++ mu) := q
        rw [List.map_append, List.mem_append] at q
        rcases q with q | q
        · obtain ⟨p, hp, e⟩ := List.mem_map.mp q
          obtain ⟨x, hx, e'⟩ := List.mem_map.mp hp
          subst e'
          exact ap'.1 x hx e.symm
        · obtain ⟨p, hp, e⟩ := List.mem_map.mp q
          exact hm (n, c) (.head _) p hp e
      · intro x hx y hy e
        subst e
        rcases List.mem_cons.mp hy with e | hy'
        · obtain ⟨p, hp, e'⟩ := List.mem_map.mp hx
          exact hf (n, c) (.head _) p hp (e'.trans e)
        · exact (List.nodup_append.mp S'.nd).2.2 _ hx _ hy' rfl

section
variable {prog : Program} {w : World} {A : Around} {E : Value → Shared → Prop} {s : Shared} {base : Heap} {fr : List Fram} {γ : Gh} {mu : List (Addr × MP)}
  {K : Frag} {p : Program} {loose : List Str} {mg mb : Str → Option Value}
  {name qual : Str} {params : Arguments} {body : List Stmt} {scope : Scope} {dV kV doc pm cdv ct oc : Value} {an od : Option Addr} {osl : Array (Option Value)} {f : Addr} {pos : List Value} {kw : List (Str × Value)} {binds : List (Str × Value)}

/-- a call of a def of the text's that has cells, and that does not raise -/
theorem callC {d u : Nat} {Q : Value → Shared → Prop} (S : St base fr γ mu s.heap) (AX : Ax A fr (d + 1) (u + 3)) (X : K.In base) (T : TopRead p loose mg mb base)
    (ho : K.lookup f = some ⟨oc, od, .func (fnOf name qual params body scope dV kV doc pm an cdv ct), osl⟩) (hcd : codeIn K cdv qual = true)
    (hbind : BindsTo s (fnOf name qual params body scope dV kV doc pm an cdv ct) ⟨pos, kw⟩ binds)
    (hkind : (binds.all fun y => scope.names.lookup y.1 == some .local || scope.names.lookup y.1 == some .cell) = true)
    (hnd : ((cellsFrom 0 scope.names []).map (·.1)).Nodup)
    (h : ∀ L h₁ tk, St base ((envOfC qual scope L f cdv, bindL (envOfC qual scope L f cdv).kindOf binds fun _ => none) :: fr) γ
        ((cellsFrom (L + 1) scope.names []).map (fun x => (x.2, Cel (bindC (envOfC qual scope L f cdv).kindOf binds (fun _ => none) x.1))) ++ mu) h₁ →
      Ax (A.deeper (envOfC qual scope L f cdv)) ((envOfC qual scope L f cdv, bindL (envOfC qual scope L f cdv).kindOf binds fun _ => none) :: fr) d u →
      wpAny (model prog w) (A.deeper (envOfC qual scope L f cdv)) (execs body (envOfC qual scope L f cdv))
        (fun fl s' => Q (match fl with | .ret v => v | _ => .none) s') (fun _ _ => False) { s with heap := h₁, toks := tk })
    (hco : scope.isCoroutine = false := by rfl) (hgen : scope.isGenerator = false := by rfl) (hk : scope.kind = .function := by rfl) :
    wpAny (model prog w) A (call (.ref f) pos kw) Q E s := by
  have XS := X.keeps S.stays
  refine wpAny_call (codeAny_call_function (by have := AX.dep; omega) (XS _ _ ho) rfl hco hgen rfl (codeRec_of XS hcd) (hbind _ _ _ _ ?_))
  refine wpAny_newFunctionEnv_cells hk (kindsX hkind _) fun env' he s' x => ?_
  subst he
  refine ⟨(T.nolimit.keeps S.stays).keeps x.toInCall.keep, codeAny_func ?_⟩
  obtain ⟨h₁, tk, rfl, _⟩ := x.done
  have hk₁ := x.toInCall.keep
  have S' := S.push (env := envOfC qual scope s.heap.objs.size f cdv) hk₁ (Heap.get?_none_of_le (Nat.le_refl _)) x.toInCall.ns hk rfl
  have hlook : ∀ n c, (n, c) ∈ cellsFrom (s.heap.objs.size + 1) scope.names [] → (cellsFrom (s.heap.objs.size + 1) scope.names []).lookup n = some c := fun n c hm =>
    lookup_of_mem_nodup (cellsFrom_names scope.names 0 (s.heap.objs.size + 1) [] [] rfl ▸ hnd) hm
  have S1 := S.push (env := envOfC qual scope s.heap.objs.size f cdv) (fun _ _ e => hk₁ _ _ e) (Heap.get?_none_of_le (Nat.le_refl _)) x.toInCall.ns hk rfl
  have new : ∀ n c, (n, c) ∈ cellsFrom (s.heap.objs.size + 1) scope.names [] → s.heap.objs.size < c := fun n c hm => x.above n c hm
  have fresh : ∀ n c, (n, c) ∈ cellsFrom (s.heap.objs.size + 1) scope.names [] → s.heap.get? c = none := fun n c hm => Heap.get?_none_of_le (Nat.le_of_lt (new n c hm))
  have SC := St.addCells (base := base) (fr := fr) (γ := γ) (mu := mu) (cm := bindC (envOfC qual scope s.heap.objs.size f cdv).kindOf binds fun _ => none) hk₁ (cellsFrom (s.heap.objs.size + 1) scope.names [])
    (fun n c hm => ⟨x.cell n c (hlook n c hm), fresh n c hm⟩) x.apart S
    (fun c hc p hp e => by obtain ⟨⟨o, ho, _⟩, _⟩ := S.mus p hp; rw [e, fresh c.1 c.2 hc] at ho; cases ho)
    (fun c hc p hp e => by obtain ⟨o, _, _, ho, _⟩ := (S.frs p hp).2.1; rw [e, fresh c.1 c.2 hc] at ho; cases ho)
  have SF : St base ((envOfC qual scope s.heap.objs.size f cdv, bindL (envOfC qual scope s.heap.objs.size f cdv).kindOf binds fun _ => none) :: fr) γ
      ((cellsFrom (s.heap.objs.size + 1) scope.names []).map (fun x => (x.2, Cel (bindC (envOfC qual scope s.heap.objs.size f cdv).kindOf binds (fun _ => none) x.1))) ++ mu) h₁ := by
    refine ⟨SC.bs, SC.sub, S'.frs, SC.mus, ?_⟩
    simp only [List.map_cons, List.cons_append, List.nodup_cons, List.mem_append, not_or]
    refine ⟨⟨fun q => ?_, fun q => ?_⟩, SC.nd⟩
    · obtain ⟨p, hp, e⟩ := List.mem_map.mp q
      obtain ⟨o, _, _, ho, _⟩ := (S.frs p hp).2.1
      rw [show p.1.locals = s.heap.objs.size from e] at ho
      rw [Heap.get?_none_of_le (Nat.le_refl _)] at ho; cases ho
    · rw [List.map_append, List.mem_append] at q
      rcases q with q | q
      · obtain ⟨p, hp, e⟩ := List.mem_map.mp q
        obtain ⟨y, hy, e'⟩ := List.mem_map.mp hp
        subst e'
        have t := new y.1 y.2 hy
        have e : y.2 = s.heap.objs.size := e
        rw [e] at t; exact absurd t (Nat.lt_irrefl _)
      · obtain ⟨p, hp, e⟩ := List.mem_map.mp q
        obtain ⟨⟨o, ho, _⟩, _⟩ := S.mus p hp
        rw [show p.1 = s.heap.objs.size from e] at ho
        rw [Heap.get?_none_of_le (Nat.le_refl _)] at ho; cases ho
  exact wpAny_mono (h s.heap.objs.size h₁ tk SF (AX.deeper _ _)) (fun _ _ q => q) fun _ _ q => q.elim

theorem compFin {C D : Addr} {mc : Str → Option Value} {acc : List Value} {h' : Heap} {tk' : Nat} {Q : Value → Shared → Prop} (S : St base fr γ ((C, NsP mc) :: (D, Lst acc.toArray) :: mu) h')
    (h : ∀ h'' tk'', St base fr γ ((D, Lst acc.toArray) :: mu) h'' → Q (.ref D) { s with heap := h'', toks := tk'' }) : compPost (model prog w) A E none Q (.ref D) C (.ok .next) { s with heap := h', toks := tk' } := by
  refine ⟨mc, nsP_of.mpr (S.mus _ (.head _)).1, fun h'' hs => h h'' tk' (S.loseHead fun b o q e => (hs.2 b q).trans e)⟩
theorem compFinUse {C D : Addr} {mc m : Str → Option Value} {acc : List Value} {h' : Heap} {tk' : Nat} {Q : Value → Shared → Prop} {env : Env} {y : Str} {py : Pos} (S : St base ((env, m) :: fr) γ ((C, NsP mc) :: (D, Lst acc.toArray) :: mu) h') (hy : env.kindOf y = some .local)
    (h : ∀ h'' tk'', St base ((env, fun z => if z = y then some (.ref D) else m z) :: fr) γ ((D, Lst acc.toArray) :: mu) h'' → Q .none { s with heap := h'', toks := tk'' }) :
    compPost (model prog w) A E (some (assign (.Name y py) env)) Q (.ref D) C (.ok .next) { s with heap := h', toks := tk' } := by
  refine wpAny_assign_Name (stL S (fun h1 tk1 S1 => ?_) hy)
  exact ⟨mc, nsP_of.mpr (S1.mus _ (.head _)).1, fun h'' hs => h h'' tk1 (S1.loseHead fun b o q e => (hs.2 b q).trans e)⟩

/-- a list comprehension of one clause -/
theorem compE {elt iter : PySem.Expr} {x : Str} {px : Pos} {ifs : List PySem.Expr} {scope : Scope} {cl : List (Str × Addr)} {pos : Pos} {env : Env} {Q : Value → Shared → Prop}
    (hclos : closureFor scope env = pure cl) (hkind : scope.kind = .function) (hnames : ∀ y ∈ scope.names, y.2 = .local → scope.names.lookup y.1 = some .local)
    (h : wpAny (model prog w) A (eval iter env) (fun xv s₁ => wpAny (model prog w) A (pyIter xv) (fun it s₂ => wpAny (model prog w) A (newList []) (fun acc s₃ =>
      wpAny (model prog w) A (newFunctionEnv scope env.globals cl [] env.qual none .none (some env)) (fun cenv s₄ =>
        codeAny (model prog w) A (.compStart (.ListComp elt [⟨.Name x px, iter, ifs, 0⟩] scope pos) 0 it acc { cenv with scope := relabel scope env }) (compPost (model prog w) A E none Q acc cenv.locals) s₄) E s₃) E s₂) E s₁) E s)
    (hs : ∀ x, foldedSetIterable iter env x = pure x := by intro _; rfl) :
    wpAny (model prog w) A (eval (.ListComp elt [⟨.Name x px, iter, ifs, 0⟩] scope pos) env) Q E s := by
  rw [eval_ListComp]
  exact wpAny_comprehension_free (use := none) rfl hs hclos hkind hnames h
/-- y = [..] whose store is made before the block's names go -/
theorem compA {elt iter : PySem.Expr} {x y : Str} {px py : Pos} {ifs : List PySem.Expr} {scope : Scope} {cl : List (Str × Addr)} {pos spos : Pos} {env : Env} {Q : Flow → Shared → Prop}
    (hsw : swapsWith (.ListComp elt [⟨.Name x px, iter, ifs, 0⟩] scope pos) (some (.Name y py)) spos.line env = pure true)
    (hclos : closureFor scope env = pure cl) (hkind : scope.kind = .function) (hnames : ∀ y ∈ scope.names, y.2 = .local → scope.names.lookup y.1 = some .local)
    (h : wpAny (model prog w) A (eval iter env) (fun xv s₁ => wpAny (model prog w) A (pyIter xv) (fun it s₂ => wpAny (model prog w) A (newList []) (fun acc s₃ =>
      wpAny (model prog w) A (newFunctionEnv scope env.globals cl [] env.qual none .none (some env)) (fun cenv s₄ =>
        codeAny (model prog w) A (.compStart (.ListComp elt [⟨.Name x px, iter, ifs, 0⟩] scope pos) 0 it acc { cenv with scope := relabel scope env }) (compPost (model prog w) A E (some (assign (.Name y py) env)) (fun _ s' => Q .next s') acc cenv.locals) s₄) E s₃) E s₂) E s₁) E s)
    (hs : ∀ x, foldedSetIterable iter env x = pure x := by intro _; rfl) :
    wpAny (model prog w) A (exec (.Assign [.Name y py] (.ListComp elt [⟨.Name x px, iter, ifs, 0⟩] scope pos) spos) env) Q E s := by
  rw [exec_Assign_Name_used _ _ _ _ hsw]
  refine wpAny_bind (wpAny_standAt (wpAny_bind ?_))
  show wpAny _ A (do let _ ← comprehension (.ListComp elt [⟨.Name x px, iter, ifs, 0⟩] scope pos) scope env _ (newList []) false (eval iter env) (some (assign (.Name y py) env))) _ _ s
  exact wpAny_bind (wpAny_mono (wpAny_comprehension_free (use := some (assign (.Name y py) env)) (Q := fun _ s' => Q .next s') rfl hs hclos hkind hnames h) (fun _ s' hq => wpAny_pure (wpAny_pure hq)) fun _ _ e => e)
end
end Mine

/-! part E1 -/
namespace Mine
/-- an exception: its class, its traceback, its context -/
def ExP (cls : String) (tb c : Value) : MP := fun o => o.cls = .type cls ∧ ∃ vs, o.data = .fields vs ∧ vs[1]? = some tb ∧ vs[2]? = some c
def TbP (fl : Value) : MP := fun o => ∃ vs, o.data = .fields vs ∧ vs[3]? = some fl

theorem ref_apart {h : Heap} {a b : Addr} {o o' : Obj} (ha : h.get? a = some o) (hb : h.get? b = none) : a ≠ b := fun e => by rw [e, hb] at ha; cases ha

section
variable {base : Heap} {fr : List Fram} {γ γ' : Gh} {mu : List (Addr × MP)} {h h' : Heap} {a : Addr} {P P' : MP} {env : Env} {m m' : Str → Option Value}

theorem St.slots (S : St base fr γ mu h) (k : Heap.SlotsOnly (fr.map (fun p => p.1.locals)) h h') : St base fr γ mu h' := by
  have nin : ∀ b, (∀ p ∈ fr, p.1.locals ≠ b) → b ∉ fr.map (fun p => p.1.locals) := fun b hb hm => by
    obtain ⟨p, hp, e⟩ := List.mem_map.mp hm
    exact hb p hp e
  refine ⟨S.bs, fun b o e => ?_, fun p hp => ⟨(S.frs p hp).1, ?_, (S.frs p hp).2.2⟩, fun p hp => ?_, S.nd⟩
  · rw [k.2.1 b (nin b fun p hp q => by have := (S.frs p hp).2.2; rw [q, e] at this; cases this)]
    exact S.sub b o e
  · obtain ⟨o, es, ep, ho, r⟩ := (S.frs p hp).2.1
    obtain ⟨sl, hs⟩ := k.2.2 _ _ ho
    exact ⟨_, es, ep, hs, r⟩
  · obtain ⟨⟨o, ho, q⟩, z⟩ := S.mus p hp
    refine ⟨⟨o, ?_, q⟩, z⟩
    rw [k.2.1 _ (nin _ fun f hf e => S.mem_apart hp hf e)]
    exact ho

theorem St.funFrames (S : St base fr γ mu h) : h.FunFrames base (fr.map (·.1)) := by
  have hb : ∀ p ∈ fr, base.get? p.1.locals = none := fun p hp => by
    cases q : base.get? p.1.locals with
    | none => rfl
    | some o => have := S.bs _ _ q; rw [(S.frs p hp).2.2] at this; cases this
  have hf := S.frs
  clear S
  induction fr with
  | nil => trivial
  | cons p r ih =>
    obtain ⟨⟨hk, hfr⟩, hn, _⟩ := hf p (.head _)
    exact Heap.FunFrames.cons (by rw [hk]; intro q; cases q) hfr hn (hb p (.head _)) (ih (fun q hq => hb q (.tail _ hq)) fun q hq => hf q (.tail _ hq))
theorem St.frames (S : St base fr γ mu h) : (fr.map (·.1)).filterMap (·.frame) = fr.map (fun p => p.1.locals) := by
  have hf := S.frs
  clear S
  induction fr with
  | nil => rfl
  | cons p r ih =>
    rw [List.map_cons, List.filterMap_cons, (hf p (.head _)).1.2, List.map_cons, ih fun q hq => hf q (.tail _ hq)]
end

section
variable {M : Model} {A : Around} {E : Value → Shared → Prop} {s : Shared} {base : Heap} {fr : List Fram} {γ : Gh} {mu : List (Addr × MP)} {env : Env} {m : Str → Option Value} {e T : Addr} {cls : String} {c fl tb : Value}

theorem exField1 {Q : Value → Shared → Prop} (S : St base fr γ mu s.heap) (he : (e, ExP cls tb c) ∈ mu) (h : Q tb s) : wpAny M A (field (.ref e) 1) Q E s := by
  obtain ⟨⟨o, ho, _, vs, hd, h1, _⟩, _⟩ := S.mus _ he
  exact wpAny_field ho hd h1 h
theorem tbField3 {Q : Value → Shared → Prop} (S : St base fr γ mu s.heap) (he : (T, TbP fl) ∈ mu) (h : Q fl s) : wpAny M A (field (.ref T) 3) Q E s := by
  obtain ⟨⟨o, ho, vs, hd, h1⟩, _⟩ := S.mus _ he
  exact wpAny_field ho hd h1 h
theorem tbSet3 {v : Value} {Q : Unit → Shared → Prop} (S : St base fr γ ((T, TbP fl) :: mu) s.heap) (h : ∀ h', St base fr γ ((T, TbP v) :: mu) h' → Q () { s with heap := h' }) : wpAny M A (setField (.ref T) 3 v) Q E s := by
  obtain ⟨⟨o, ho, vs, hd, h1⟩, _⟩ := S.mus _ (.head _)
  have hz := (Array.getElem?_eq_some_iff.mp h1).1
  refine wpAny_setField ho hd hz (h _ (S.setHead (fun b o' q e => (Heap.get?_update_other _ _ (Ne.symm q)).trans e) ⟨_, Heap.get?_update_self _ ho (Obj.isFreed_of_fields (Obj.data_mapFields hd _)), _, Obj.data_mapFields hd _, ?_⟩))
  simp [hz]
theorem exSet1 {v : Value} {Q : Unit → Shared → Prop} (S : St base fr γ ((e, ExP cls tb c) :: mu) s.heap) (h : ∀ h', St base fr γ ((e, ExP cls v c) :: mu) h' → Q () { s with heap := h' }) : wpAny M A (setField (.ref e) 1 v) Q E s := by
  obtain ⟨⟨o, ho, hc, vs, hd, h1, h2⟩, _⟩ := S.mus _ (.head _)
  have hz := (Array.getElem?_eq_some_iff.mp h1).1
  refine wpAny_setField ho hd hz (h _ (S.setHead (fun b o' q e => (Heap.get?_update_other _ _ (Ne.symm q)).trans e) ⟨_, Heap.get?_update_self _ ho (Obj.isFreed_of_fields (Obj.data_mapFields hd _)), ?_, _, Obj.data_mapFields hd _, ?_, ?_⟩))
  · rw [Obj.cls_mapFields]; exact hc
  · simp [hz]
  · rw [Array.getElem?_setIfInBounds_ne (by decide)]; exact h2

/-- a new entry of the traceback -/
theorem entryX {head : Value} {hadNext : Bool} {Q : Unit → Shared → Prop} (hfr : A.frames = some (env :: fr.map (·.1)))
    (S : St base ((env, m) :: fr) γ ((e, ExP cls tb c) :: mu) s.heap)
    (h : ∀ T h', St base ((env, m) :: fr) γ ((T, TbP (rawInt env.locals)) :: (e, ExP cls (.ref T) c) :: mu) h' → Q () { s with heap := h' }) :
    wpAny M A (do let a ← frameOf env; let pl ← entryPlaceOf env.locals hadNext; let b ← EntryCells.newEntry head a .none (rawInt env.locals) .none pl; setField (.ref e) 1 b) Q E s := by
  refine wpAny_bind (wpAny_frameOf_fun hfr S.funFrames (S.frs _ (.head _)).1.2 fun h₁ hs₁ => ?_)
  have S1 := S.slots (by rw [← S.frames]; exact hs₁)
  refine wpAny_bind (wpAny_entryPlaceOf fun pl hpl => ?_)
  unfold EntryCells.newEntry newFields
  refine wpAny_bind (wpAny_newObj_type ?_ (hpl.sizeOk5 _ _ _ _ _))
  have S2 := S1.new (P := TbP (rawInt env.locals)) (fun _ _ e => Heap.get?_push_of_some _ e) (Heap.get?_none_of_le (Nat.le_refl _)) (Heap.get?_push_size (o := { cls := .type "traceback", dict := none, data := .fields ([head, .ref env.locals, .none, rawInt env.locals, .none] ++ (if pl.isEmpty then List.replicate 6 Value.none else pl)).toArray }) h₁ rfl)
    ⟨_, rfl, by first | (simp; done) | (rcases hpl with rfl | ⟨_, _, _, _, _, _, _, rfl⟩ <;> simp)⟩
  exact exSet1 S2.swap fun h' S3 => h _ h' S3.swap

theorem noteNew {Q : Unit → Shared → Prop} (hfr : A.frames = some (env :: fr.map (·.1))) (S : St base ((env, m) :: fr) γ ((e, ExP cls .none c) :: mu) s.heap)
    (h : ∀ T h', St base ((env, m) :: fr) γ ((T, TbP (rawInt env.locals)) :: (e, ExP cls (.ref T) c) :: mu) h' → Q () { s with heap := h' }) : wpAny M A (noteFrame (.ref e) env) Q E s := by
  unfold noteFrame
  have hf : env.frame = some env.locals := (S.frs _ (.head _)).1.2
  simp only [hf]
  refine wpAny_bind (exField1 S (.head _) ?_)
  rw [if_neg (by decide)]
  exact entryX hfr S h
theorem noteAgain {Q : Unit → Shared → Prop} (S : St base ((env, m) :: fr) γ mu s.heap) (he : (e, ExP cls (.ref T) c) ∈ mu) (hT : (T, TbP (rawInt env.locals)) ∈ mu) (h : Q () s) : wpAny M A (noteFrame (.ref e) env) Q E s := by
  unfold noteFrame
  have hf : env.frame = some env.locals := (S.frs _ (.head _)).1.2
  simp only [hf]
  refine wpAny_bind (exField1 S he ?_)
  rw [if_pos (show (Value.ref T != Value.none) = true from by simp)]
  refine wpAny_bind (tbField3 S hT ?_)
  rw [if_pos (show (rawInt env.locals == rawInt env.locals) = true from by simp)]
  exact wpAny_pure h
theorem flightX {Q : Unit → Shared → Prop} {f : Option Addr} (S : St base fr γ ((T, TbP fl) :: (e, ExP cls (.ref T) c) :: mu) s.heap)
    (h : ∀ h', St base fr γ ((T, TbP (f.elim .none fun f => rawInt f)) :: (e, ExP cls (.ref T) c) :: mu) h' → Q () { s with heap := h' }) : wpAny M A (setFlight (.ref e) f) Q E s := by
  unfold setFlight
  refine wpAny_bind (exField1 S (.tail _ (.head _)) ?_)
  rw [if_pos (show (Value.ref T != Value.none) = true from by simp)]
  exact tbSet3 S h
theorem cameBackX {E : Value → Shared → Prop} (S : St base ((env, m) :: fr) γ ((T, TbP fl) :: (e, ExP cls (.ref T) c) :: mu) s.heap)
    (h : ∀ h', St base ((env, m) :: fr) γ ((T, TbP (rawInt env.locals)) :: (e, ExP cls (.ref T) c) :: mu) h' → E (.ref e) { s with heap := h' }) : cameBackBy M A env E (.ref e) s := by
  unfold cameBackBy
  refine wpAny_bind (exField1 S (.tail _ (.head _)) ?_)
  rw [if_neg (by simp)]
  refine flightX S fun h' S' => h h' ?_
  have hf : env.frame = some env.locals := (S.frs _ (.head _)).1.2
  rw [hf] at S'
  exact S'
theorem passOnX {α : Type} {what : String} {Q : α → Shared → Prop} (S : St base ((env, m) :: fr) γ ((T, TbP fl) :: (e, ExP cls (.ref T) c) :: mu) s.heap)
    (h : ∀ h', St base ((env, m) :: fr) γ ((T, TbP (rawInt env.locals)) :: (e, ExP cls (.ref T) c) :: mu) h' → E (.ref e) { s with heap := h' }) : wpAny M A (PySem.passOn what (.ref e) env : Sem α) Q E s := by
  unfold PySem.passOn
  refine wpAny_bind (exField1 S (.tail _ (.head _)) ?_)
  rw [if_neg (by simp)]
  refine wpAny_bind (flightX S fun h' S' => ?_)
  have hf : env.frame = some env.locals := (S.frs _ (.head _)).1.2
  rw [hf] at S'
  exact wpAny_throw (h h' S')
end
end Mine

/-! part E2 -/
namespace Mine
theorem entry_unchain : entryFor table "proto.unchain" = some Builtin.«proto.unchain» := entryFor_of_fast (by kernel_rfl)
theorem plain_unchain : plainId "proto.unchain" = true := by with_unfolding_all rfl

section
variable {α : Type} {prog : Program} {w : World} {A : Around} {E : Value → Shared → Prop} {s : Shared} {base : Heap} {fr : List Fram} {γ : Gh} {mu : List (Addr × MP)} {env : Env} {m : Str → Option Value}

theorem raiseX {cls msg : String} {Q : α → Shared → Prop} (hp : PlainExc cls) (S : St base fr γ mu s.heap)
    (hh : A.handled = none ∨ ∃ e1 c1 tb1, A.handled = some (.ref e1) ∧ (e1, ExP c1 tb1 .none) ∈ mu)
    (h : ∀ e c h' tk', (A.handled = none → c = .none) → St base fr γ ((e, ExP cls .none c) :: mu) h' → E (.ref e) { s with heap := h', toks := tk' }) :
    wpAny (model prog w) A (raiseErrorWords cls msg : Sem α) Q E s := by
  unfold raiseErrorWords
  refine wpAny_bind (wpAny_mkText (wpAny_bind ?_))
  unfold newExc newTuple
  refine wpAny_bind (wpAny_newObj_type ?_)
  refine wpAny_bind (m := firstArgMember _ _) (wpAny_of_eq (a := Value.none) (by simp only [firstArgMember, hp.first]; rfl) ?_)
  rw [hp.own]
  refine wpAny_newObj_type ?_
  have S1 := S.grow (h' := s.heap.push { cls := .type "tuple", dict := none, data := .seq [Value.str msg s.toks].toArray }) fun _ _ e => Heap.get?_push_of_some _ e
  have S2 := S1.new (P := ExP cls .none .none) (fun _ _ e => Heap.get?_push_of_some _ e) (Heap.get?_none_of_le (Nat.le_refl _)) (Heap.get?_push_size (o := { cls := .type cls, dict := none, data := .fields (#[Value.ref s.heap.objs.size, .none, .none, .none, .bool false, .none] ++ #[]) }) _ rfl)
    ⟨rfl, _, rfl, rfl, rfl⟩
  unfold raiseNew
  refine wpAny_bind (wpAny_handled ?_)
  rcases hh with hh | ⟨e1, c1, tb1, hh, hm⟩
  · rw [hh]
    first
      | refine wpAny_throw ?_
      | refine wpAny_bind (wpAny_pure (wpAny_throw ?_))
    exact h _ .none _ _ (fun _ => rfl) S2
  · rw [hh]
    have hne : (Value.ref e1 != Value.ref (s.heap.push { cls := .type "tuple", dict := none, data := .seq [Value.str msg s.toks].toArray }).objs.size) = true := by
      have : e1 ≠ (s.heap.push { cls := .type "tuple", dict := none, data := .seq [Value.str msg s.toks].toArray }).objs.size := fun q => by
        obtain ⟨⟨o, ho, _⟩, _⟩ := S1.mus _ hm
        rw [show e1 = _ from q, Heap.get?_none_of_le (Nat.le_refl _)] at ho; cases ho
      simpa using this
    dsimp only
    rw [if_pos hne]
    refine wpAny_bind (wpAny_holding (wpAny_runValue (codeAny_builtin entry_unchain ?_)))
    rw [Around.under_plainId plain_unchain _]
    unfold Builtin.«proto.unchain»
    obtain ⟨⟨o, ho, _, vs, hd, _, h2⟩, _⟩ := S2.mus _ (.tail _ hm)
    refine wpAny_bind (wpAny_field ho hd h2 ?_)
    rw [if_pos (by decide)]
    refine wpAny_pure ?_
    refine wpAny_bind ?_
    show wpAny _ _ (setField (.ref _) 2 (.ref e1)) _ _ _
    obtain ⟨⟨o, ho, hc, vs, hd, h1, h2⟩, _⟩ := S2.mus _ (.head _)
    have hz := (Array.getElem?_eq_some_iff.mp h2).1
    refine wpAny_setField ho hd hz ?_
    refine wpAny_throw (h _ (.ref e1) _ _ (fun q => by rw [hh] at q; cases q) (S2.setHead (fun b o' q e => (Heap.get?_update_other _ _ (Ne.symm q)).trans e) ⟨_, Heap.get?_update_self _ ho (Obj.isFreed_of_fields (Obj.data_mapFields hd _)), ?_, _, Obj.data_mapFields hd _, ?_, ?_⟩))
    · rw [Obj.cls_mapFields]; exact hc
    · rw [Array.getElem?_setIfInBounds_ne (by decide)]; exact h1
    · simp [hz]

theorem outItem {l : Addr} {vs : List Value} {k : Int} {t : Tok} {Q : Value → Shared → Prop} (S : St base fr γ mu s.heap) (x : HL γ mu l vs)
    (hh : A.handled = none ∨ ∃ e1 c1 tb1, A.handled = some (.ref e1) ∧ (e1, ExP c1 tb1 .none) ∈ mu)
    (hout : (vs.length : Int) ≤ k) (hhi : k < 2 ^ 63)
    (hE : ∀ e c h' tk', (A.handled = none → c = .none) → St base fr γ ((e, ExP "IndexError" .none c) :: mu) h' → E (.ref e) { s with heap := h', toks := tk' }) :
    wpAny (model prog w) A (getItem (.ref l) (.int k t)) Q E s := by
  have hl := S.lis x
  obtain ⟨o, ho, hc, ne, hd⟩ := id hl
  unfold getItem
  try with_reducible refine wpAny_holding ?_
  first | refine wpAny_bind (wpAny_pure ?_) | skip
  refine wpAny_bind (wpAny_sequenceKey hl.typeIs (by decide) ?_)
  refine wpAny_bind (wpAny_callSpecial?_slot (name := Str.ofString "__getitem__") hl.typeIs slot_list_getitem
    (wpAny_call_entry slot_list_getitem hl.typeIs entry_list_getitem ?_ (args_list_getitem _ _)))
  show wpAny _ _ (Builtin.List.listSubscript? (.int k t) >>= _) _ _ s
  refine wpAny_bind (wpAny_listSubscript_int (fitsIndex_both (by omega) hhi) ?_)
  clear hhi
  cases k with
  | ofNat j =>
    have hx : vs.toArray[j]? = none := Array.getElem?_eq_none (by have : (vs.length : Int) ≤ (j : Int) := hout; rw [List.size_toArray]; omega)
    show wpAny _ _ ((seqItemAt l j >>= fun r => pure (r.map (j, ·))) >>= _) _ _ s
    refine wpAny_bind (wpAny_bind (wpAny_seqItemAt ho hd (wpAny_pure ?_)))
    rw [hx]
    first
      | exact wpAny_bind (wpAny_rule (raiseX plainExc_IndexError S hh hE))
      | exact wpAny_bind (wpAny_rule (wpAny_bind (raiseX plainExc_IndexError S hh hE)))
      | exact wpAny_bind (wpAny_bind (wpAny_rule (raiseX plainExc_IndexError S hh hE)))
      | exact wpAny_rule (raiseX plainExc_IndexError S hh hE)
  | negSucc j => exact absurd hout (by have := Int.negSucc_lt_zero j; omega)
theorem outSub {value slice : PySem.Expr} {l : Addr} {vs : List Value} {k : Int} {t : Tok} {Q : Value → Shared → Prop} (S : St base fr γ mu s.heap) (x : HL γ mu l vs)
    (hh : A.handled = none ∨ ∃ e1 c1 tb1, A.handled = some (.ref e1) ∧ (e1, ExP c1 tb1 .none) ∈ mu)
    (hout : (vs.length : Int) ≤ k) (hhi : k < 2 ^ 63)
    (hE : ∀ e c h' tk', (A.handled = none → c = .none) → St base fr γ ((e, ExP "IndexError" .none c) :: mu) h' → E (.ref e) { s with heap := h', toks := tk' })
    (hs : subscripted slice false (.ref l) (.int k t) = operate [.ref l, .int k t] (getItem (.ref l) (.int k t)) := by with_unfolding_all rfl) :
    wpAny (model prog w) A (subscriptTail value slice (.ref l) (.int k t)) Q E s :=
  tail_any (S.lis x).typeIs slot_list_getitem.lookup (outItem S x hh hout hhi hE) hs

/-- a slice of a list: a new list -/
theorem opSlice {value : PySem.Expr} {lower upper : Option PySem.Expr} {p pos : Pos} {Q : Value → Shared → Prop}
    (h : wpAny (model prog w) A (eval value env) (fun o s₁ => wpAny (model prog w) A (evalPart lower env) (fun vl s₂ => wpAny (model prog w) A (evalPart upper env) (fun vu s₃ =>
      ∃ l vs lo hi base fr γ mu, o = .ref l ∧ St base fr γ mu s₃.heap ∧ HL γ mu l vs ∧ vs.length ≤ sizeLine ∧ IsPart vl lo ∧ IsPart vu hi ∧
        ∀ b γ' h' tk', γ.Le γ' → GL γ' b (slicePick vs.toArray lo hi none) → St base fr γ' mu h' → Q (.ref b) { s₃ with heap := h', toks := tk' }) E s₂) E s₁) E s)
    (ht : ∀ o r, letTemporaryGo value o r = pure () := by intro _ _; rfl) :
    wpAny (model prog w) A (eval (.Subscript value (.Slice lower upper none p) pos) env) Q E s := by
  refine wpAny_Subscript_list_slice (wpAny_mono h (fun o s₁ h₁ => wpAny_mono h₁ (fun vl s₂ h₂ => wpAny_mono h₂ (fun vu s₃ h₃ => ?_) fun _ _ e => e) fun _ _ e => e) fun _ _ e => e) ht
  obtain ⟨l, vs, lo, hi, base, fr, γ, mu, rfl, S, x, hz, pl, pu, k⟩ := h₃
  refine ⟨l, vs.toArray, lo, hi, rfl, S.lis x, by rw [List.size_toArray]; exact hz, pl, pu, ?_⟩
  have S1 := S.grow (h' := s₃.heap.push { cls := .type "slice", data := .fields #[vl, vu, .none] }) fun _ _ e => Heap.get?_push_of_some _ e
  obtain ⟨γ', L, e, S2⟩ := S1.newFrozen (fun _ _ e => Heap.get?_push_of_some _ e) (Heap.get?_none_of_le (Nat.le_refl _)) (Heap.get?_push_size (o := { cls := .type "list", data := .seq (slicePick vs.toArray lo hi none) }) _ rfl)
  rw [Heap.size_push] at e
  exact k _ γ' _ s₃.toks L ⟨_, e, 0, rfl⟩ S2
end
end Mine

/-! part P2 -/
namespace Mine
def sl : List Int → List Int → List Int × List Int
  | [], ys => ([], ys)
  | x :: xs, [] => (x :: xs, [])
  | x :: xs, y :: ys => if x < y then (x :: (sl xs (y :: ys)).1, (sl xs (y :: ys)).2) else if y < x then ((sl (x :: xs) ys).1, y :: (sl (x :: xs) ys).2) else sl xs ys
termination_by xs ys => xs.length + ys.length
theorem sl_nilL (ys : List Int) : sl [] ys = ([], ys) := by rw [sl]
theorem sl_nilR (xs : List Int) : sl xs [] = (xs, []) := by cases xs <;> rw [sl]
theorem sl_lt {x y : Int} {xs ys : List Int} (h : x < y) : sl (x :: xs) (y :: ys) = (x :: (sl xs (y :: ys)).1, (sl xs (y :: ys)).2) := by rw [sl, if_pos h]
theorem sl_gt {x y : Int} {xs ys : List Int} (h : y < x) : sl (x :: xs) (y :: ys) = ((sl (x :: xs) ys).1, y :: (sl (x :: xs) ys).2) := by rw [sl, if_neg (by omega), if_pos h]
theorem sl_same {x : Int} {xs ys : List Int} : sl (x :: xs) (x :: ys) = sl xs ys := by rw [sl, if_neg (by omega), if_neg (by omega)]

abbrev Rise (xs : List Int) : Prop := xs.Pairwise (· < ·)
theorem Rise.next {xs : List Int} (h : Rise xs) {i : Nat} (h1 : i + 1 < xs.length) : xs[i] ≠ xs[i + 1] := by
  have := List.pairwise_iff_getElem.mp h i (i + 1) (by omega) h1 (by omega)
  omega

theorem sl_filter : ∀ {xs ys : List Int}, Rise xs → Rise ys → sl xs ys = (xs.filter (fun x => decide (x ∉ ys)), ys.filter (fun y => decide (y ∉ xs)))
  | [], ys, _, _ => by
    rw [sl_nilL]
    have : ys.filter (fun y => decide (y ∉ ([] : List Int))) = ys := List.filter_eq_self.mpr (by intro a _; simp)
    rw [this]; rfl
  | x :: xs, [], _, _ => by
    rw [sl_nilR]
    have : (x :: xs).filter (fun y => decide (y ∉ ([] : List Int))) = x :: xs := List.filter_eq_self.mpr (by intro a _; simp)
    rw [this]; rfl
  | x :: xs, y :: ys, hx, hy => by
    have hx' := List.pairwise_cons.mp hx
    have hy' := List.pairwise_cons.mp hy
    rcases Int.lt_trichotomy x y with h | h | h
    · rw [sl_lt h, sl_filter hx'.2 hy]
      have n : x ∉ y :: ys := fun m => by
        rcases List.mem_cons.mp m with e | e
        · omega
        · have := hy'.1 x e; omega
      refine Prod.ext ?_ ?_ <;> dsimp only
      · rw [List.filter_cons (xs := _), if_pos (by simpa using n)]
      · refine List.filter_congr fun z hz => ?_
        have : z ≠ x := fun e => n (e ▸ hz)
        simp [this]
    · subst h
      rw [sl_same, sl_filter hx'.2 hy'.2]
      refine Prod.ext ?_ ?_ <;> dsimp only
      · rw [List.filter_cons, if_neg (by simp)]
        refine List.filter_congr fun z hz => ?_
        have := hx'.1 z hz
        have : z ≠ x := by omega
        simp [this]
      · rw [List.filter_cons, if_neg (by simp)]
        refine List.filter_congr fun z hz => ?_
        have := hy'.1 z hz
        have : z ≠ x := by omega
        simp [this]
    · rw [sl_gt h, sl_filter hx hy'.2]
      have n : y ∉ x :: xs := fun m => by
        rcases List.mem_cons.mp m with e | e
        · omega
        · have := hx'.1 y e; omega
      refine Prod.ext ?_ ?_ <;> dsimp only
      · refine List.filter_congr fun z hz => ?_
        have : z ≠ y := fun e => n (e ▸ hz)
        simp [this]
      · rw [List.filter_cons (xs := _), if_pos (by simpa using n)]
termination_by xs ys => xs.length + ys.length
end Mine

/-! part F9 -/
namespace Mine
theorem St.sublist {base : Heap} {fr : List Fram} {γ : Gh} {mu mu' : List (Addr × MP)} {h : Heap} (S : St base fr γ mu h) (k : mu'.Sublist mu) : St base fr γ mu' h :=
  ⟨S.bs, S.sub, S.frs, fun p hp => S.mus p (k.subset hp), ((List.Sublist.refl _).append (k.map _)).nodup S.nd⟩
section
variable {prog : Program} {w : World} {A : Around} {E : Value → Shared → Prop} {s : Shared} {env : Env}
theorem tryX {body orelse : List Stmt} {h₀ : ExceptHandler} {hs : List ExceptHandler} {pos : Pos} {Q : Flow → Shared → Prop} (EX : Env → Value → Shared → Prop)
    (h : wpAny (model prog w) A (execs body env) (fun f s₁ => match f with | .next => wpAny (model prog w) A (execs orelse env) Q E s₁ | f => Q f s₁) (EX env) s)
    (hx : ∀ e s', EX env e s' → wpAny (model prog w) A (noteFrame e env) (fun _ s₂ => wpAny (model prog w) A (setFlight e none) (fun _ s₃ => wpAny (model prog w) A (handleBy e env (h₀ :: hs)) Q E s₃) E s₂) E s') :
    wpAny (model prog w) A (exec (.Try body (h₀ :: hs) orelse [] pos) env) Q E s :=
  wpAny_Try_except (wpAny_mono h (fun _ _ q => q) hx)
theorem noteAny {M : Model} {base : Heap} {fr : List Fram} {γ : Gh} {mu muX : List (Addr × MP)} {m : Str → Option Value} {e : Addr} {cls : String} {c : Value} {Q : Unit → Shared → Prop} {s : Shared} (hfr : A.frames = some (env :: fr.map (·.1))) (S : St base ((env, m) :: fr) γ (muX ++ mu) s.heap)
    (hx : muX = [(e, ExP cls .none c)] ∨ ∃ T, muX = [(T, TbP (rawInt env.locals)), (e, ExP cls (.ref T) c)])
    (h : ∀ T h', St base ((env, m) :: fr) γ ((T, TbP (rawInt env.locals)) :: (e, ExP cls (.ref T) c) :: mu) h' → Q () { s with heap := h' }) : wpAny M A (noteFrame (.ref e) env) Q E s := by
  rcases hx with rfl | ⟨T, rfl⟩
  · exact noteNew hfr S h
  · exact noteAgain S (.tail _ (.head _)) (.head _) (h T _ S)
theorem isPart_int (k : Int) (t : Tok) : IsPart (.int k t) (some k) := by first | exact .int | exact .int _ _ | exact IsPart.int ..
end
end Mine
local macro_rules | `(tactic| walk_at "m walk") => `(tactic| repeat' ((try dsimp only); first | ((with_reducible show Heap.StaysIn _ _ ∧ _); refine ⟨St.stays (by assumption), ?_⟩; (try dsimp only [List.nil_append, List.cons_append])) | ((with_reducible show wpAny _ _ (eval (PySem.Expr.Subscript _ (PySem.Expr.Slice _ _ _ _) _) _) _ _ _); (k_dflt (refine' opSlice ?_ ?ht; (case ht => intro _ _; rfl)))) | (walk_at "m stop"; walk1)))

/-! part B4 -/
namespace Mine
section
variable {prog : Program} {w : World} {A : Around} {E : Value → Shared → Prop} {s : Shared} {base : Heap} {fr : List Fram} {γ : Gh} {mu : List (Addr × MP)}
  {p : Program} {loose : List Str} {mg mb : Str → Option Value}
theorem bump {k : Nat} {t : Tok} : some (Value.int ((k : Int) + 1) t) = some (Value.int ((k + 1 : Nat) : Int) t) := rfl
def SumI (xs ys : List Int) (i j : Nat) (ms us : List Value) : Prop := ∃ msn usn, IntsAre ms msn ∧ IntsAre us usn ∧ msn ++ (sl (xs.drop i) (ys.drop j)).1 = (sl xs ys).1 ∧ usn ++ (sl (xs.drop i) (ys.drop j)).2 = (sl xs ys).2
theorem ints_snoc {vs : List Value} {ns : List Int} (h : IntsAre vs ns) (k : Int) (t : Tok) : IntsAre (vs ++ [.int k t]) (ns ++ [k]) := by
  induction h with
  | nil => exact .cons _ _ .nil
  | cons n t _ ih => exact .cons _ _ ih
theorem ints_app {vs ws : List Value} {ns ms : List Int} (h : IntsAre vs ns) (h' : IntsAre ws ms) : IntsAre (vs ++ ws) (ns ++ ms) := by
  induction h with
  | nil => exact h'
  | cons n t _ ih => exact .cons _ _ ih
theorem SumI.lt {xs ys : List Int} {i j : Nat} {ms us : List Value} {t : Tok} (h : SumI xs ys i j ms us) (hi : i < xs.length) (hj : j < ys.length) (hc : xs[i] < ys[j]) : SumI xs ys (i + 1) j (ms ++ [.int xs[i] t]) us := by
  obtain ⟨msn, usn, im, iu, q1, q2⟩ := h
  rw [List.drop_eq_getElem_cons hi, List.drop_eq_getElem_cons hj, sl_lt hc, ← List.drop_eq_getElem_cons hj] at q1 q2
  exact ⟨msn ++ [xs[i]], usn, ints_snoc im _ _, iu, by rw [List.append_assoc]; exact q1, q2⟩
theorem SumI.gt {xs ys : List Int} {i j : Nat} {ms us : List Value} {t : Tok} (h : SumI xs ys i j ms us) (hi : i < xs.length) (hj : j < ys.length) (hc : ys[j] < xs[i]) : SumI xs ys i (j + 1) ms (us ++ [.int ys[j] t]) := by
  obtain ⟨msn, usn, im, iu, q1, q2⟩ := h
  rw [List.drop_eq_getElem_cons hi, List.drop_eq_getElem_cons hj, sl_gt hc, ← List.drop_eq_getElem_cons hi] at q1 q2
  exact ⟨msn, usn ++ [ys[j]], im, ints_snoc iu _ _, q1, by rw [List.append_assoc]; exact q2⟩
theorem SumI.eq {xs ys : List Int} {i j : Nat} {ms us : List Value} (h : SumI xs ys i j ms us) (hi : i < xs.length) (hj : j < ys.length) (h1 : ¬ xs[i] < ys[j]) (h2 : ¬ ys[j] < xs[i]) : SumI xs ys (i + 1) (j + 1) ms us := by
  obtain ⟨msn, usn, im, iu, q1, q2⟩ := h
  have e : xs[i] = ys[j] := by omega
  rw [List.drop_eq_getElem_cons hi, List.drop_eq_getElem_cons hj, e, sl_same] at q1 q2
  exact ⟨msn, usn, im, iu, q1, q2⟩
theorem SumI.fin {xs ys : List Int} {i j : Nat} {ms us vs ws : List Value} (h : SumI xs ys i j ms us) (hv : IntsAre vs (xs.drop i)) (hw : IntsAre ws (ys.drop j)) (he : i = xs.length ∨ j = ys.length) : IntsAre (ms ++ vs) (sl xs ys).1 ∧ IntsAre (us ++ ws) (sl xs ys).2 := by
  obtain ⟨msn, usn, im, iu, q1, q2⟩ := h
  have e : sl (xs.drop i) (ys.drop j) = (xs.drop i, ys.drop j) := by
    rcases he with rfl | rfl
    · rw [List.drop_length, sl_nilL]
    · rw [List.drop_length, sl_nilR]
  rw [e] at q1 q2
  exact ⟨q1 ▸ ints_app im hv, q2 ▸ ints_app iu hw⟩
/-- where the turn of sorted_list_difference stands -/
structure SlV (m : Str → Option Value) (a b M U : Addr) (i j : Nat) : Prop where
  ex : m "expected" = some (.ref a)
  ac : m "actual" = some (.ref b)
  mi : m "missing" = some (.ref M)
  un : m "unexpected" = some (.ref U)
  vi : ∃ t, m "i" = some (.int (i : Nat) t)
  vj : ∃ t, m "j" = some (.int (j : Nat) t)
structure SlI (m : Str → Option Value) (a b M U : Addr) (xs ys : List Int) (i j : Nat) (ms us : List Value) : Prop where
  v : SlV m a b M U i j
  li : i ≤ xs.length
  lj : j ≤ ys.length
  lm : ms.length ≤ i
  lu : us.length ≤ j
  sum : SumI xs ys i j ms us

theorem sld {d u : Nat} {Q : Value → Shared → Prop} (S : St base fr γ mu s.heap) (AX : Ax A fr (d + 1) (u + 3)) (X : (Mine.hd.heap_39 w.params).In base) (T : TopRead p loose mg mb base)
   {a b : Addr} {vs ws : List Value} {xs ys : List Int} (ha : GL γ a vs.toArray) (hb : GL γ b ws.toArray) (hi : IntsAre vs xs) (hj : IntsAre ws ys) (hsz : vs.length + ws.length ≤ 64) (rx : Rise xs) (ry : Rise ys)
   (ret : ∀ t p q γ' h' tk', γ.Le γ' → GT γ' t #[.ref p, .ref q] → GI γ' p (sl xs ys).1 → GI γ' q (sl xs ys).2 → St base fr γ' mu h' → Q (.ref t) { s with heap := h', toks := tk' })
   : wpAny (model prog w) A (call (.ref 21) [.ref a, .ref b]) Q E s := by
  k_dflt (refine' callP (binds := [("expected", .ref a), ("actual", .ref b)]) S AX X T ?k6 ?k7 ?k9 ?kB ?_ ?c5 ?c2 ?c3 ?c4; (case k6 => k_is); (case k7 => k_is); (case k9 => exact BindsTo.of_eq rfl); (case kB => exact locs rfl); (case c5 => decide); (case c2 => exact rfl); (case c3 => exact rfl); (case c4 => exact rfl))
  intro L h₁ tk S' AX'
  clear S AX
  k_fold
  walk_at "m walk"
  rename St _ _ _ _ _ => S1
  refine newListM S1 ?_
  intro M h2 tk2 S2
  clear S1
  walk_at "m walk"
  rename St _ _ _ _ _ => S1
  refine newListM S1 ?_
  intro U h2 tk2 S2
  clear S1
  walk_at "m walk"
  rename St _ _ _ _ _ => S1
  have lx := hi.length
  have ly := hj.length
  refine whileX (fun env n h => ∃ m i j ms us, St base ((env, m) :: fr) γ ((U, Lst us.toArray) :: (M, Lst ms.toArray) :: mu) h ∧ SlI m a b M U xs ys i j ms us ∧ n = (xs.length - i) + (ys.length - j)) ?_ (xs.length + ys.length)
    ⟨_, 0, 0, [], [], S1, ⟨⟨rfl, rfl, rfl, rfl, ⟨_, rfl⟩, ⟨_, rfl⟩⟩, Nat.zero_le _, Nat.zero_le _, Nat.le_refl _, Nat.le_refl _, [], [], .nil, .nil, rfl, rfl⟩, rfl⟩
  rintro n h' tk' ⟨m, i, j, ms, us, S2, I, en⟩
  clear S1
  walk_at "m walk"
  rename St _ _ _ _ _ => S3
  refine tryX (fun env ev s' => ∃ m i j ms us e c muX hh tk, ev = .ref e ∧ s' = { s with heap := hh, toks := tk } ∧ St base ((env, m) :: fr) γ (muX ++ (U, Lst us.toArray) :: (M, Lst ms.toArray) :: mu) hh ∧ SlI m a b M U xs ys i j ms us ∧ (i = xs.length ∨ j = ys.length) ∧
      (muX = [(e, ExP "IndexError" .none c)] ∨ ∃ T, muX = [(T, TbP (rawInt L)), (e, ExP "IndexError" (.ref T) c)])) ?_ ?_
  · obtain ⟨⟨e1, e2, e3, e4, ⟨ti, e5⟩, ⟨tj, e6⟩⟩, li, lj, lm, lu, su⟩ := id I
    walk_at "m walk"
    rename St _ _ _ _ _ => S4
    by_cases hio : i < xs.length
    case neg =>
      refine outSub S4 (HL.fro ha) (.inl AX'.hd) (by omega) (by omega) ?_
      intro e c h tk hc S5
      exact ⟨_, i, j, ms, us, e, c, [_], h, tk, rfl, rfl, S5, I, .inl (by omega), .inl rfl⟩
    obtain ⟨_, t1, ev⟩ := ints_get hi i (by omega)
    refine opSub S4 (v := .int xs[i] t1) (HL.fro ha) (by omega) (by omega) (by rw [Int.toNat_natCast, List.getElem?_eq_getElem (by omega), ev]) ?_
    walk_at "m walk"
    rename St _ _ _ _ _ => S4
    by_cases hjo : j < ys.length
    case neg =>
      refine outSub S4 (HL.fro hb) (.inl AX'.hd) (by omega) (by omega) ?_
      intro e c h tk hc S5
      exact ⟨_, i, j, ms, us, e, c, [_], h, tk, rfl, rfl, S5, ⟨⟨by walk_at "m val", by walk_at "m val", by walk_at "m val", by walk_at "m val", ⟨_, by walk_at "m val"⟩, ⟨_, by walk_at "m val"⟩⟩, li, lj, lm, lu, su⟩, .inr (by omega), .inl rfl⟩
    obtain ⟨_, t2, ew⟩ := ints_get hj j (by omega)
    refine opSub S4 (v := .int ys[j] t2) (HL.fro hb) (by omega) (by omega) (by rw [Int.toNat_natCast, List.getElem?_eq_getElem (by omega), ew]) ?_
    have hi1 : ((i : Int) + 1) = ((i + 1 : Nat) : Int) := rfl
    have hj1 : ((j : Int) + 1) = ((j + 1 : Nat) : Int) := rfl
    walk_at "m walk"
    · rename_i hc
      rename St _ _ _ _ _ => S5
      refine opAppend (i := 1) S5 rfl (by rw [sizeLine_eq]; omega) ?_
      intro h4 tk4 S6
      dsimp only [List.set] at S6
      clear S5
      walk_at "m walk"
      rename St _ _ _ _ _ => S7
      refine whileX (fun env n h => n = 0 ∧ ∃ m, St base ((env, m) :: fr) γ ((U, Lst us.toArray) :: (M, Lst (ms ++ [Value.int xs[i] t1]).toArray) :: mu) h ∧ SlI m a b M U xs ys (i + 1) j (ms ++ [.int xs[i] t1]) us ∧ m "e" = some (.int xs[i] t1)) ?_ 0
        ⟨rfl, _, S7, ⟨⟨by walk_at "m val", by walk_at "m val", by walk_at "m val", by walk_at "m val", ⟨_, bump⟩, ⟨_, by walk_at "m val"⟩⟩, by omega, lj, by simp; omega, lu, su.lt hio hjo hc⟩, by walk_at "m val"⟩
      rintro n' h' tk' ⟨rfl, m2, S8, I2, ee⟩
      clear S7
      obtain ⟨⟨f1, f2, f3, f4, ⟨ui, f5⟩, ⟨uj, f6⟩⟩, _⟩ := id I2
      walk_at "m walk"
      rename St _ _ _ _ _ => S9
      by_cases hio2 : i + 1 < xs.length
      · obtain ⟨_, t3, ev3⟩ := ints_get hi (i + 1) (by omega)
        refine opSub S9 (v := .int xs[i + 1] t3) (HL.fro ha) (by omega) (by omega) (by rw [Int.toNat_natCast, List.getElem?_eq_getElem (by omega), ev3]) ?_
        walk_at "m walk"
        · rename (xs[i + 1] = xs[i]) => hc2
          exact absurd hc2.symm (rx.next hio2)
        · rename St _ _ _ _ _ => S10
          exact ⟨_, _, _, rfl, by omega, _, i + 1, j, _, _, S10, I2, rfl⟩
      · refine outSub S9 (HL.fro ha) (.inl AX'.hd) (by omega) (by omega) ?_
        intro e c h tk hc S10
        refine noteNew AX'.st S10 ?_
        intro T h S11
        refine cameBackX S11 ?_
        intro h S12
        exact ⟨m2, i + 1, j, _, us, e, c, [_, _], _, _, rfl, rfl, S12, I2, .inl (by omega), .inr ⟨T, rfl⟩⟩
    · rename_i hc
      rename St _ _ _ _ _ => S5
      refine opAppend (i := 0) S5 rfl (by rw [sizeLine_eq]; omega) ?_
      intro h4 tk4 S6
      dsimp only [List.set] at S6
      clear S5
      walk_at "m walk"
      rename St _ _ _ _ _ => S7
      refine whileX (fun env n h => n = 0 ∧ ∃ m, St base ((env, m) :: fr) γ ((U, Lst (us ++ [Value.int ys[j] t2]).toArray) :: (M, Lst ms.toArray) :: mu) h ∧ SlI m a b M U xs ys i (j + 1) ms (us ++ [.int ys[j] t2]) ∧ m "a" = some (.int ys[j] t2)) ?_ 0
        ⟨rfl, _, S7, ⟨⟨by walk_at "m val", by walk_at "m val", by walk_at "m val", by walk_at "m val", ⟨_, by walk_at "m val"⟩, ⟨_, bump⟩⟩, li, by omega, lm, by simp; omega, su.gt hio hjo hc⟩, by walk_at "m val"⟩
      rintro n' h' tk' ⟨rfl, m2, S8, I2, ee⟩
      clear S7
      obtain ⟨⟨f1, f2, f3, f4, ⟨ui, f5⟩, ⟨uj, f6⟩⟩, _⟩ := id I2
      walk_at "m walk"
      rename St _ _ _ _ _ => S9
      by_cases hio2 : j + 1 < ys.length
      · obtain ⟨_, t3, ev3⟩ := ints_get hj (j + 1) (by omega)
        refine opSub S9 (v := .int ys[j + 1] t3) (HL.fro hb) (by omega) (by omega) (by rw [Int.toNat_natCast, List.getElem?_eq_getElem (by omega), ev3]) ?_
        walk_at "m walk"
        · rename (ys[j + 1] = ys[j]) => hc2
          exact absurd hc2.symm (ry.next hio2)
        · rename St _ _ _ _ _ => S10
          exact ⟨_, _, _, rfl, by omega, _, i, j + 1, _, _, S10, I2, rfl⟩
      · refine outSub S9 (HL.fro hb) (.inl AX'.hd) (by omega) (by omega) ?_
        intro e c h tk hc S10
        refine noteNew AX'.st S10 ?_
        intro T h S11
        refine cameBackX S11 ?_
        intro h S12
        exact ⟨m2, i, j + 1, ms, _, e, c, [_, _], _, _, rfl, rfl, S12, I2, .inr (by omega), .inr ⟨T, rfl⟩⟩
    · rename (¬ xs[i] < ys[j]) => hc1
      rename (¬ _) => hc2
      rename St _ _ _ _ _ => S5
      refine wpAny_Try_finally ?_
      walk_at "m walk"
      rename St _ _ _ _ _ => S6
      refine whileX (fun env n h => n = 0 ∧ ∃ m, St base ((env, m) :: fr) γ ((U, Lst us.toArray) :: (M, Lst ms.toArray) :: mu) h ∧ SlV m a b M U (i + 1) j ∧ m "e" = some (.int xs[i] t1) ∧ m "a" = some (.int ys[j] t2)) ?_ 0
        ⟨rfl, _, S6, ⟨by walk_at "m val", by walk_at "m val", by walk_at "m val", by walk_at "m val", ⟨_, bump⟩, ⟨_, by walk_at "m val"⟩⟩, by walk_at "m val", by walk_at "m val"⟩
      rintro n' h' tk' ⟨rfl, m2, S8, V2, ee, ea⟩
      clear S6
      obtain ⟨f1, f2, f3, f4, ⟨ui, f5⟩, ⟨uj, f6⟩⟩ := id V2
      have su' := su.eq hio hjo hc1 hc2
      walk_at "m walk"
      rename St _ _ _ _ _ => S9
      by_cases hio2 : i + 1 < xs.length
      · obtain ⟨_, t3, ev3⟩ := ints_get hi (i + 1) (by omega)
        refine opSub S9 (v := .int xs[i + 1] t3) (HL.fro ha) (by omega) (by omega) (by rw [Int.toNat_natCast, List.getElem?_eq_getElem (by omega), ev3]) ?_
        walk_at "m walk"
        · rename (xs[i + 1] = xs[i]) => hc2
          exact absurd hc2.symm (rx.next hio2)
        · rename St _ _ _ _ _ => S10
          refine whileX (fun env n h => n = 0 ∧ ∃ m, St base ((env, m) :: fr) γ ((U, Lst us.toArray) :: (M, Lst ms.toArray) :: mu) h ∧ SlI m a b M U xs ys (i + 1) (j + 1) ms us ∧ m "a" = some (.int ys[j] t2)) ?_ 0
            ⟨rfl, _, S10, ⟨⟨by walk_at "m val", by walk_at "m val", by walk_at "m val", by walk_at "m val", ⟨_, by walk_at "m val"⟩, ⟨_, bump⟩⟩, by omega, by omega, by omega, by omega, su'⟩, by walk_at "m val"⟩
          rintro n' h' tk' ⟨rfl, m3, S11, I3, ea'⟩
          clear S10
          obtain ⟨⟨f1, f2, f3, f4, ⟨ui, f5⟩, ⟨uj, f6⟩⟩, _⟩ := id I3
          walk_at "m walk"
          rename St _ _ _ _ _ => S12
          by_cases hjo2 : j + 1 < ys.length
          · obtain ⟨_, t4, ew4⟩ := ints_get hj (j + 1) (by omega)
            refine opSub S12 (v := .int ys[j + 1] t4) (HL.fro hb) (by omega) (by omega) (by rw [Int.toNat_natCast, List.getElem?_eq_getElem (by omega), ew4]) ?_
            walk_at "m walk"
            · rename (ys[j + 1] = ys[j]) => hc2
              exact absurd hc2.symm (ry.next hjo2)
            · rename St _ _ _ _ _ => S13
              exact ⟨_, _, _, rfl, by omega, _, i + 1, j + 1, _, _, S13, I3, rfl⟩
          · refine outSub S12 (HL.fro hb) (.inl AX'.hd) (by omega) (by omega) ?_
            intro e c h tk hc S13
            refine noteNew AX'.st S13 ?_
            intro T h S14
            refine cameBackX S14 ?_
            intro h S15
            refine noteAgain S15 (.tail _ (.head _)) (.head _) ?_
            refine cameBackX S15 ?_
            intro h S16
            exact ⟨m3, i + 1, j + 1, ms, us, e, c, [_, _], _, _, rfl, rfl, S16, I3, .inr (by omega), .inr ⟨T, rfl⟩⟩
      · refine outSub S9 (HL.fro ha) (.inl AX'.hd) (by omega) (by omega) ?_
        intro e c h tk hc S10
        obtain rfl := hc AX'.hd
        refine noteNew AX'.st S10 ?_
        intro T1 h S11
        refine cameBackX S11 ?_
        intro h S12
        refine noteAgain S12 (.tail _ (.head _)) (.head _) ?_
        refine ⟨ref_ne_byPass _, ?_⟩
        refine noteAgain S12 (.tail _ (.head _)) (.head _) ?_
        refine flightX (f := none) S12 ?_
        intro h S13
        clear S9 S10 S11 S12
        walk_at "m walk"
        rename St _ _ _ _ _ => S10
        refine whileX (fun env n h => n = 0 ∧ ∃ m, St base ((env, m) :: fr) γ ((T1, TbP .none) :: (e, ExP "IndexError" (.ref T1) .none) :: (U, Lst us.toArray) :: (M, Lst ms.toArray) :: mu) h ∧ SlI m a b M U xs ys (i + 1) (j + 1) ms us ∧ m "a" = some (.int ys[j] t2)) ?_ 0
          ⟨rfl, _, S10, ⟨⟨by walk_at "m val", by walk_at "m val", by walk_at "m val", by walk_at "m val", ⟨_, by walk_at "m val"⟩, ⟨_, bump⟩⟩, by omega, by omega, by omega, by omega, su'⟩, by walk_at "m val"⟩
        rintro n' h' tk' ⟨rfl, m3, S11, I3, ea'⟩
        clear S10
        obtain ⟨⟨f1, f2, f3, f4, ⟨ui, f5⟩, ⟨uj, f6⟩⟩, _⟩ := id I3
        walk_at "m walk"
        rename St _ _ _ _ _ => S12
        by_cases hjo2 : j + 1 < ys.length
        · obtain ⟨_, t4, ew4⟩ := ints_get hj (j + 1) (by omega)
          refine opSub S12 (v := .int ys[j + 1] t4) (HL.fro hb) (by omega) (by omega) (by rw [Int.toNat_natCast, List.getElem?_eq_getElem (by omega), ew4]) ?_
          walk_at "m walk"
          · rename (ys[j + 1] = ys[j]) => hc2
            exact absurd hc2.symm (ry.next hjo2)
          · rename St _ _ _ _ _ => S13
            refine passOnX S13 ?_
            intro h S14
            exact ⟨m3, i + 1, j + 1, ms, us, e, _, [_, _], _, _, rfl, rfl, S14, I3, .inl (by omega), .inr ⟨T1, rfl⟩⟩
        · refine outSub S12 (HL.fro hb) (.inr ⟨e, _, _, rfl, .tail _ (.head _)⟩) (by omega) (by omega) ?_
          intro e2 c2 h tk hc S13
          refine noteNew AX'.st S13 ?_
          intro T h S14
          refine cameBackX S14 ?_
          intro h S15
          refine noteAgain S15 (.tail _ (.head _)) (.head _) ?_
          refine cameBackX S15 ?_
          intro h S16
          exact ⟨m3, i + 1, j + 1, ms, us, e2, c2, [_, _], _, _, rfl, rfl, S16.sublist (.cons_cons _ (.cons_cons _ (.cons _ (.cons _ (.refl _))))), I3, .inr (by omega), .inr ⟨T, rfl⟩⟩
  · rintro ev s' ⟨m, i, j, ms, us, e, c, muX, hh, tk, rfl, rfl, S4, I, hend, hx⟩
    refine noteAny AX'.st S4 hx ?_
    intro T1 h1 S5
    refine flightX S5 ?_
    intro h2 S6
    dsimp only
    refine wpAny_handleBy_builtin (X := "IndexError") (T := "IndexError") (b := true) PySem.F.isExc_IndexError PySem.F.notTuple_IndexError PySem.F.self_IndexError ?_
    refine nmB S6 X T ?k1 PyProof.Rows.Boot.«IndexError» (by decide) ?_
    case k1 => k_is
    refine ⟨rfl, ?_, ?_⟩
    · obtain ⟨⟨o, ho, hc, _⟩, _⟩ := S6.mus _ (.tail _ (.head _))
      exact ⟨o, ho, hc⟩
    refine flightX (f := none) S6 ?_
    intro h3 S7
    have S8 := S7.drop.drop
    clear S3 S4 S5 S6 S7
    obtain ⟨⟨e1, e2, e3, e4, ⟨ti, e5⟩, ⟨tj, e6⟩⟩, li, lj, lm, lu, su⟩ := id I
    walk_at "m walk"
    rename St _ _ _ _ _ => S9
    refine ⟨_, vs, _, _, _, _, _, _, rfl, S9, HL.fro ha, by rw [sizeLine_eq]; omega, isPart_int _ _, .none, ?_⟩
    intro c1 γ1 h5 tk5 le1 g1 S10
    clear S9
    walk_at "m walk"
    rename St _ _ _ _ _ => S11
    have ix : IntsAre (slicePick vs.toArray (some (i : Int)) none none).toList (xs.drop i) := slice_ints_from hi (x := (i : Int)) (by omega) (by omega)
    have iy : IntsAre (slicePick ws.toArray (some (j : Int)) none none).toList (ys.drop j) := slice_ints_from hj (x := (j : Int)) (by omega) (by omega)
    have zx := ix.length
    have zy := iy.length
    rw [List.length_drop] at zx zy
    refine opExtend (i := 1) S11 rfl (HL.fro (vs := (slicePick vs.toArray (some (i : Int)) none none).toList) (by rw [Array.toArray_toList]; exact g1)) (by rw [sizeLine_eq]; omega) ?_
    intro h6 tk6 S12
    dsimp only [List.set] at S12
    clear S11
    walk_at "m walk"
    rename St _ _ _ _ _ => S9
    refine ⟨_, ws, _, _, _, _, _, _, rfl, S9, HL.fro (hb.le le1), by rw [sizeLine_eq]; omega, isPart_int _ _, .none, ?_⟩
    intro c2 γ2 h7 tk7 le2 g2 S13
    clear S9
    walk_at "m walk"
    rename St _ _ _ _ _ => S14
    refine opExtend (i := 0) S14 rfl (HL.fro (vs := (slicePick ws.toArray (some (j : Int)) none none).toList) (by rw [Array.toArray_toList]; exact g2)) (by rw [sizeLine_eq]; omega) ?_
    intro h8 tk8 S15
    dsimp only [List.set] at S15
    clear S14
    walk_at "m walk"
    rename St _ _ _ _ _ => S16
    refine newTupF S16 ?_
    intro t γ3 h9 tk9 le3 g3 S17
    clear S16
    walk_at "m walk"
    obtain ⟨k1, k2⟩ := su.fin ix iy hend
    rename St _ _ _ _ _ => S18
    obtain ⟨o1, p1, _, l1, S19⟩ := S18.freeze
    obtain ⟨o2, p2, _, l2, S20⟩ := S19.freeze
    exact ret t M U _ _ _ (((((le1.trans le2).trans le3).trans l1).trans l2)) ((g3.le l1).le l2) ⟨_, ⟨o2, Gh.put_self, p2⟩, k1⟩ (GI.le ⟨_, ⟨o1, Gh.put_self, p1⟩, k2⟩ l2) S20.pop
end
end Mine

/-! part F10 -/
namespace Mine
theorem keepSt2 {base : Heap} {fr : List Fram} {γ : Gh} {mu : List (Addr × MP)} {h : Heap} (_S : St base fr γ mu h) : True := trivial
end Mine
local macro_rules | `(tactic| walk_at "m mem") => `(tactic| first | exact List.Mem.head _ | exact List.Mem.tail _ (List.Mem.head _) | exact List.Mem.tail _ (List.Mem.tail _ (List.Mem.head _)) | exact List.Mem.tail _ (List.Mem.tail _ (List.Mem.tail _ (List.Mem.head _))) | exact List.Mem.tail _ (List.Mem.tail _ (List.Mem.tail _ (List.Mem.tail _ (List.Mem.head _)))) | exact List.Mem.tail _ (List.Mem.tail _ (List.Mem.tail _ (List.Mem.tail _ (List.Mem.tail _ (List.Mem.head _))))) | assumption)
local macro_rules | `(tactic| walk_at "eval Name") => `(tactic| ((with_reducible rename St _ _ _ _ _ => sX); k_dflt (refine' nmB sX ?kX ?kT ?kE ?kV ?kN ?_ ?k1 ?k2 ?k3 ?k4 ?k5; (case k1 => rfl); (case k2 => rfl); (case k3 => rfl); (case k4 => rfl); (case k5 => decide); (case kX => assumption); (case kT => assumption); (case kE => k_is); (case kV => boot_by_name); (case kN => decide); k_whole)))
local macro_rules | `(tactic| walk_at "eval Name") => `(tactic| ((with_reducible rename St _ _ _ _ _ => sX); k_dflt (refine' nmG sX ?kX ?kT ?kE ?_ ?k1 ?k2 ?k3 ?k4; (case k1 => rfl); (case k2 => rfl); (case k3 => rfl); (case k4 => decide); (case kX => assumption); (case kT => assumption); (case kE => k_is); k_whole)))
local macro_rules | `(tactic| walk_at "eval Name") => `(tactic| ((with_reducible rename St _ _ _ _ _ => sX); k_dflt (refine' nmI sX ?kV ?_ ?k1 ?k2 ?k3; (case k1 => rfl); (case k2 => rfl); (case k3 => decide); (case kV => walk_at "m val"); k_whole)))
local macro_rules | `(tactic| walk_at "eval Name") => `(tactic| ((with_reducible rename St _ _ _ _ _ => sX); k_dflt (refine' nmF sX ?kC ?kM ?_ ?k1 ?k2 ?k3 ?k4; (case k1 => rfl); (case k2 => rfl); (case k3 => decide); (case k4 => decide); (case kC => rfl); (case kM => walk_at "m mem"); k_whole)))
local macro_rules | `(tactic| walk_at "eval Name") => `(tactic| ((with_reducible rename St _ _ _ _ _ => sX); k_dflt (refine' nmC sX ?kC ?kM ?_ ?k1 ?k2 ?k3; (case k1 => rfl); (case k2 => rfl); (case k3 => decide); (case kC => rfl); (case kM => walk_at "m mem"); k_whole)))
local macro_rules | `(tactic| walk_at "storeName") => `(tactic| ((with_reducible rename St _ _ _ _ _ => sX); k_dflt (refine' stC (P := fun _ => True) (i := 0) sX ?kC ?kI ?_ ?k1 ?k2; (case k1 => rfl); (case k2 => rfl); (case kC => rfl); (case kI => exact rfl); k_whole); intro h' tk' S'; clear sX; dsimp only [List.set] at S'))
local macro_rules | `(tactic| walk_at "storeName") => `(tactic| ((with_reducible rename St _ _ _ _ _ => sX); k_dflt (refine' stC (P := fun _ => True) (i := 1) sX ?kC ?kI ?_ ?k1 ?k2; (case k1 => rfl); (case k2 => rfl); (case kC => rfl); (case kI => exact rfl); k_whole); intro h' tk' S'; clear sX; dsimp only [List.set] at S'))
local macro_rules | `(tactic| walk_at "call type:range") => `(tactic| ((with_reducible rename St _ _ _ _ _ => sX); (refine opRange sX ?_; intro r γr h' tk' ler gr S'; clear sX)))

/-! part B5 -/
namespace Mine
section
variable {prog : Program} {w : World} {A : Around} {E : Value → Shared → Prop} {s : Shared} {base : Heap} {fr : List Fram} {γ : Gh} {mu : List (Addr × MP)}
  {p : Program} {loose : List Str} {mg mb : Str → Option Value}
def bitI (c : Int) (i : Nat) : Bool := decide ((c.fdiv (2 ^ i)).fmod 2 = 1)
def memI (c : Int) : List Int := ((List.range 4).filter (bitI c)).map Int.ofNat
theorem members {d u : Nat} {Q : Value → Shared → Prop} (S : St base fr γ mu s.heap) (AX : Ax A fr (d + 1) (u + 3)) (X : (Mine.hd.heap_39 w.params).In base) (T : TopRead p loose mg mb base)
   {c : Int} {t : Tok} (ret : ∀ a γ' h' tk', γ.Le γ' → GI γ' a (memI c) → St base fr γ' mu h' → Q (.ref a) { s with heap := h', toks := tk' })
   : wpAny (model prog w) A (call (.ref 69) [.int c t]) Q E s := by
  k_dflt (refine' callC (binds := [("code", .int c t)]) S AX X T ?k6 ?k7 ?k9 ?kB ?kN ?_ ?c2 ?c3 ?c4; (case k6 => k_is); (case k7 => k_is); (case k9 => exact BindsTo.of_eq rfl); (case kB => rfl); (case kN => decide); (case c2 => exact rfl); (case c3 => exact rfl); (case c4 => exact rfl))
  intro L h₁ tk S' AX'
  clear S AX
  k_fold
  have S1 : St base _ γ ((L + 1, Cel (some (.int c t))) :: mu) h₁ := S'
  clear S'
  walk_at "m walk"
  refine compE (cl := [("code", L + 1)]) (by with_unfolding_all rfl) rfl (by decide) ?_
  walk_at "m walk"
  rename St _ _ _ _ _ => S2
  rename RG _ _ _ => gr
  rename Gh.Le _ _ => le1
  refine iterRange (n := 4) S2 AX'.hd gr (by rw [sizeLine_eq]; omega) ?_
  intro it h3 tk3 G S3
  clear S2
  refine compG G S3 (by decide) rfl rfl (by rw [sizeLine_eq]; omega) (fun i _ mu' acc => mu' = (L + 1, Cel (some (.int c t))) :: mu ∧ IntsAre acc (((List.range i).filter (bitI c)).map Int.ofNat)) ⟨rfl, .nil⟩ ?_ ?_
  · rintro i v C D mc γ' mu' acc h' tk' E' hi ha le ⟨rfl, hI⟩ ⟨tt, rfl⟩ hm S4
    clear S3
    walk_at "m walk"
    rename St _ _ _ _ _ => S5
    refine ⟨γ', _, mc, _, _, rfl, Gh.Le.rfl, hm, S5, ?_⟩
    have es : List.map Int.ofNat (List.filter (bitI c) (List.range (i + 1))) = List.map Int.ofNat (List.filter (bitI c) (List.range i)) ++ (if bitI c i = true then [(i : Int)] else []) := by
      rw [List.range_succ, List.filter_append, List.map_append, List.filter_cons]
      split <;> rfl
    cases q : bitI c i with
    | false =>
      rw [q] at es
      rw [if_neg (by rw [Int.toNat_natCast]; have := of_decide_eq_false q; simpa using this)]
      exact ⟨rfl, by rw [es]; simpa using hI⟩
    | true =>
      rw [q] at es
      rw [if_pos (by rw [Int.toNat_natCast]; have := of_decide_eq_true q; simpa using this)]
      walk_at "m walk"
      rename St _ _ _ _ _ => S6
      exact ⟨γ', _, mc, _, _, rfl, Gh.Le.rfl, S6, rfl, by rw [es]; exact IntsAre.append hI (.cons _ _ .nil)⟩
  · rintro C D mc γ' mu' acc h' tk' ha le ⟨rfl, hI⟩ S4
    refine compFin S4 ?_
    intro h5 tk5 S5
    obtain ⟨o, p1, _, l1, S6⟩ := S5.freeze
    exact ret D _ h5 tk5 ((le1.trans le).trans l1) ⟨acc, ⟨o, Gh.put_self, p1⟩, hI⟩ S6.drop.pop
end
end Mine

/-! part B6 -/
namespace Mine
section
variable {prog : Program} {w : World} {A : Around} {E : Value → Shared → Prop} {s : Shared} {base : Heap} {fr : List Fram} {γ : Gh} {mu : List (Addr × MP)}
  {p : Program} {loose : List Str} {mg mb : Str → Option Value}
theorem family {d u : Nat} {Q : Value → Shared → Prop} (S : St base fr γ mu s.heap) (AX : Ax A fr (d + 3) (u + 73)) (X : (Mine.hd.heap_39 w.params).In base) (T : TopRead p loose mg mb base)
   {a : Addr} {cvs : List Value} {cs : List Int} (ha : GL γ a cvs.toArray) (hc : IntsAre cvs cs) (hsz : cvs.length ≤ 64)
   (ret : ∀ b vs rows γ' h' tk', γ.Le γ' → GL γ' b vs.toArray → GRs γ' vs rows → SortedR rows → rows.Nodup → (∀ r, r ∈ rows ↔ r ∈ cs.map memI) → vs.length ≤ cvs.length → St base fr γ' mu h' → Q (.ref b) { s with heap := h', toks := tk' })
   : wpAny (model prog w) A (call (.ref 90) [.ref a]) Q E s := by
  k_dflt (refine' callP (d := d + 2) (u := u + 70) (binds := [("codes", .ref a)]) S AX X T ?k6 ?k7 ?k9 ?kB ?_ ?c5 ?c2 ?c3 ?c4; (case k6 => k_is); (case k7 => k_is); (case k9 => exact BindsTo.of_eq rfl); (case kB => exact locs rfl); (case c5 => decide); (case c2 => exact rfl); (case c3 => exact rfl); (case c4 => exact rfl))
  intro L h₁ tk S' AX'
  clear S AX
  k_fold
  have lc := hc.length
  walk_at "m walk"
  rename St _ _ _ _ _ => S1
  refine newListM S1 ?_
  intro R h2 tk2 S2
  clear S1
  walk_at "m walk"
  refine wpAny_For ?_
  walk_at "m walk"
  rename St _ _ _ _ _ => S3
  refine iterList S3 AX'.hd ha ?_
  intro it h3 tk3 G S4
  clear S3
  refine forG G S4 rfl (fun i m γ' mu' => ∃ vs rows, mu' = (R, Lst vs.toArray) :: mu ∧ m "row" = some (.ref R) ∧ GRs γ' vs rows ∧ SortedR rows ∧ rows.Nodup ∧ (∀ r, r ∈ rows ↔ r ∈ (cs.take i).map memI) ∧ vs.length ≤ i)
    ⟨[], [], rfl, rfl, .nil, .nil, .nil, by simp, Nat.le_refl _⟩ ?_ ?_
  · rintro i v m' γ' mu' h' tk' hi le ⟨vs, rows, rfl, hm, hr, so, nd, me, hl⟩ hv S5
    clear S4
    obtain ⟨hi2, t, ev⟩ := ints_get hc i hi
    have ev : v = .int cs[i] t := by rw [List.getElem?_eq_getElem hi, ev] at hv; exact (Option.some.inj hv).symm
    subst ev
    walk_at "m walk"
    rename St _ _ _ _ _ => S6
    refine members (d := d + 1) (u := u + 67) S6 AX'.top X T ?_
    intro b γ2 h4 tk4 le2 hb S7
    clear S6
    walk_at "m walk"
    rename St _ _ _ _ _ => S8
    obtain ⟨xs, gb, ib⟩ := hb
    have hr2 := hr.le le2
    refine among S8 AX'.top X T (vs := vs) (HL.mut (.tail _ (.head _))) hr2 gb ib (by rw [sizeLine_eq]; omega) so ?_
    intro h5 tk5 S9
    clear S8
    have es : List.map memI (cs.take (i + 1)) = List.map memI (cs.take i) ++ [memI cs[i]] := by
      rw [List.take_succ_eq_append_getElem hi2, List.map_append]; rfl
    walk_at "m walk"
    · rename St _ _ _ _ _ => S10
      rename (_ ∈ rows) => hn
      exact ⟨_, γ2, _, _, _, rfl, le2, ⟨vs, rows, rfl, by walk_at "m val", hr2, so, nd, fun r => by rw [es, List.mem_append, List.mem_singleton, me]; exact ⟨.inl, fun q => q.elim id fun e => e ▸ (me _).mp hn⟩, by omega⟩, S10⟩
    · rename St _ _ _ _ _ => S10
      rename (¬ _ ∈ rows) => hn
      refine insortL' (i := 1) S10 (AX'.top.le (u' := u + 6) (Nat.le_refl _) (by omega)) X T rfl hr2 gb ib (by rw [sizeLine_eq]; omega) so ?_
      intro vs' rows' h6 tk6 hr' so' pm S11
      dsimp only [List.set] at S11
      clear S10
      walk_at "m walk"
      rename St _ _ _ _ _ => S12
      refine ⟨_, γ2, _, _, _, rfl, le2, ⟨vs', rows', rfl, by walk_at "m val", hr', so', pm.nodup_iff.mpr (List.nodup_cons.mpr ⟨hn, nd⟩), fun r => ?_, ?_⟩, S12⟩
      · rw [pm.mem_iff, es, List.mem_cons, List.mem_append, List.mem_singleton, me, or_comm]
      · have := pm.length_eq; rw [hr'.length, this, List.length_cons, ← hr2.length]; omega
  · rintro m' γ' mu' h' tk' le ⟨vs, rows, rfl, hm, hr, so, nd, me, hl⟩ S5
    walk_at "m walk"
    rename St _ _ _ _ _ => S6
    obtain ⟨o, p1, _, l1, S7⟩ := S6.freeze
    exact ret R vs rows _ _ _ (le.trans l1) ⟨o, Gh.put_self, p1⟩ (hr.le l1) so nd (by rw [List.take_of_length_le (by omega)] at me; exact me) hl S7.pop
end
end Mine

/-! part F11 -/
namespace Mine
def dI (ns : List Int) : PyData := .list (ns.map .int)
def dR (rows : List (List Int)) : PyData := .list (rows.map dI)
theorem rdA_ints {γ : Gh} : ∀ {vs : List Value} {ns : List Int}, IntsAre vs ns → RdA γ vs (ns.map .int)
  | _, _, .nil => .nil
  | _, _, .cons _ _ r => .cons (Rd.int _ _) (rdA_ints r)
theorem GI.rd {γ : Gh} {a : Addr} {ns : List Int} (x : GI γ a ns) : Rd γ (.ref a) (dI ns) := let ⟨_, g, i⟩ := x; Rd.list g (rdA_ints i)
theorem GRs.rdA {γ : Gh} : ∀ {vs : List Value} {rows : List (List Int)}, GRs γ vs rows → RdA γ vs (rows.map dI)
  | _, _, .nil => .nil
  | _, _, .cons x r => .cons x.rd r.rdA
theorem GRs.rd {γ : Gh} {a : Addr} {vs : List Value} {rows : List (List Int)} (x : GRs γ vs rows) (g : GL γ a vs.toArray) : Rd γ (.ref a) (dR rows) := Rd.list g x.rdA
theorem GT.rd2 {γ : Gh} {t p q : Addr} {a b : List Int} (g : GT γ t #[.ref p, .ref q]) (x : GI γ p a) (y : GI γ q b) : Rd γ (.ref t) (.tuple [dI a, dI b]) := Rd.tuple (vs := [.ref p, .ref q]) g (.cons x.rd (.cons y.rd .nil))

theorem lay_dI (ns : List Int) : (dI ns).canLay0 = true := by simp [dI, PyData.canLay0, ke_canLayAll0]
theorem depth_dI (ns : List Int) : (dI ns).depth = 1 := by simp [dI, PyData.depth, ke_depthAll]
theorem lay_dR (rows : List (List Int)) : (dR rows).canLay0 = true := by
  simp only [dR, PyData.canLay0]
  induction rows with
  | nil => rfl
  | cons a r ih => simp [PyData.canLayAll0, lay_dI, ih]
theorem depth_dR (rows : List (List Int)) : (dR rows).depth ≤ 2 := by
  simp only [dR, PyData.depth]
  induction rows with
  | nil => simp [PyData.depthAll]
  | cons a r ih => simp only [List.map_cons, PyData.depthAll, depth_dI]; omega
theorem shaped_dR (rows : List (List Int)) : SeqAt.shaped (dR rows) = true := by
  have := depth_dR rows
  simp only [SeqAt.shaped, lay_dR, Bool.true_and, decide_eq_true_eq]; omega
theorem shaped_d2 (a b : List Int) : SeqAt.shaped (.tuple [dI a, dI b]) = true := by
  simp [SeqAt.shaped, PyData.canLay0, PyData.canLayAll0, lay_dI, PyData.depth, PyData.depthAll, depth_dI]
theorem eqv_dI (ns : List Int) : PyData.eqv (dI ns) (dI ns) = true := by
  simp only [dI, PyData.eqv]
  induction ns with
  | nil => rfl
  | cons a r ih => simp [PyData.eqvAll, PyData.eqv, ih]
theorem eqv_dR (rows : List (List Int)) : PyData.eqv (dR rows) (dR rows) = true := by
  simp only [dR, PyData.eqv]
  induction rows with
  | nil => rfl
  | cons a r ih => simp [PyData.eqvAll, eqv_dI, ih]
theorem eqv_d2 (a b : List Int) : PyData.eqv (.tuple [dI a, dI b]) (.tuple [dI a, dI b]) = true := by simp [PyData.eqv, PyData.eqvAll, eqv_dI]

theorem St.freezeL {base : Heap} {fr : List Fram} {γ : Gh} {mu : List (Addr × MP)} {h : Heap} {a : Addr} {its : Array Value} (S : St base fr γ ((a, Lst its) :: mu) h) : ∃ γ', γ.Le γ' ∧ GL γ' a its ∧ St base fr γ' mu h := by
  obtain ⟨o, p1, _, l1, S'⟩ := S.freeze
  exact ⟨_, l1, ⟨o, Gh.put_self, p1⟩, S'⟩
section
variable {prog : Program} {w : World} {A : Around} {E : Value → Shared → Prop} {s : Shared} {base : Heap} {fr : List Fram} {γ γ₀ : Gh} {mu : List (Addr × MP)} {l it : Addr} {vs : List Value}

theorem opNeSame {x y : Value} {d : PyData} {Q : Value → Shared → Prop} (S : St base fr γ mu s.heap) (hx : Rd γ x d) (hy : Rd γ y d) (hs : SeqAt.shaped d = true) (he : PyData.eqv d d = true) (hu : A.units + 64 < cLine) (h : Q (.bool false) s) :
    wpAny (model prog w) A (compareOp .NotEq x y) Q E s := by
  obtain ⟨as, ra⟩ := hx s.heap S.sub
  obtain ⟨bs, rb⟩ := hy s.heap S.sub
  exact ne_dataH ra rb hs hs hu (by rw [he]; exact h)

theorem opUnpack {env : Env} {elts : List PySem.Expr} {x1} {pos : Pos} {t : Addr} {items : Array Value} {Q : Unit → Shared → Prop} (S : St base fr γ mu s.heap) (hh : A.handled = none) (ht : GT γ t items)
    (hn : (assignEach elts env).length = items.size) (hstar : (assignEach elts env).findIdx? (·.1) = none)
    (h : ∀ h' tk', St base fr γ mu h' → wpAny (model prog w) A (assignInOrder ((assignEach elts env).map (·.2)) items.toList) Q E { s with heap := h', toks := tk' }) :
    wpAny (model prog w) A (assign (.Tuple elts x1 pos) env (.ref t)) Q E s :=
  assign_Tuple_tuple hh (S.isTup ht) hn hstar fun h' he => h h' s.toks (S.grow fun b o e => he b o (Nat.ne_of_lt (Heap.lt_size e)) e)

/-- a for whose target is a cell -/
theorem forGC {x : Str} {px : Pos} {body : List Stmt} {env : Env} {m : Str → Option Value} {R : Result → Shared → Prop} {J : Nat → MP} {n : Nat} {P : Nat → Value → Prop} {c : Addr} {cv : Option Value}
    (G : Gen prog w A base γ it J n P) (S : St base ((env, m) :: fr) γ ((it, J 0) :: (c, Cel cv) :: mu) s.heap) (hx : env.kindOf x = some .cell) (hc : env.cells.lookup x = some c) (hk : env.scope.kind = .function)
    (I : Nat → (Str → Option Value) → Gh → List (Addr × MP) → Prop) (i0 : I 0 m γ mu)
    (turn : ∀ i v m' γ' mu' h' tk', i < n → γ.Le γ' → I i m' γ' mu' → P i v → St base ((env, m') :: fr) γ' ((it, J (i + 1)) :: (c, Cel (some v)) :: mu') h' →
      wpAny (model prog w) A (execs body env) (fun f s₃ => match f with
        | .next | .cont => ∃ m2 γ2 mu2 cv2 h2 tk2, s₃ = { s with heap := h2, toks := tk2 } ∧ γ'.Le γ2 ∧ I (i + 1) m2 γ2 mu2 ∧ St base ((env, m2) :: fr) γ2 ((it, J (i + 1)) :: (c, Cel cv2) :: mu2) h2
        | .brk => R (.ok .next) s₃
        | .ret v => R (.ok (.ret v)) s₃) (notedBy (model prog w) A env fun e s' => R (.error e) s') { s with heap := h', toks := tk' })
    (fin : ∀ m' γ' mu' cv' h' tk', γ.Le γ' → I n m' γ' mu' → St base ((env, m') :: fr) γ' ((c, Cel cv') :: mu') h' → R (.ok .next) { s with heap := h', toks := tk' }) :
    codeAny (model prog w) A (.forLoop (.Name x px) (.ref it) body [] env) R s := by
  refine codeAny_forLoop (fun k s' => ∃ i m' γ' mu' cv' h' tk', s' = { s with heap := h', toks := tk' } ∧ i ≤ n ∧ k = n - i ∧ γ.Le γ' ∧ I i m' γ' mu' ∧ St base ((env, m') :: fr) γ' ((it, J i) :: (c, Cel cv') :: mu') h') ?_ n
    ⟨0, m, γ, mu, cv, s.heap, s.toks, rfl, Nat.zero_le _, rfl, Gh.Le.rfl, i0, S⟩
  rintro k s' ⟨i, m', γ', mu', cv', h', tk', rfl, hi, rfl, le, hI, S'⟩
  rcases Nat.lt_or_eq_of_le hi with hlt | rfl
  · refine G.item _ _ _ _ _ _ i hlt le S' fun v h1 tk1 hP S1 => ?_
    refine wpAny_assign_Name (stC (P := fun _ => True) (i := 1) S1 hc rfl (fun h2 tk2 S2 => ?_) hk hx)
    refine wpAny_mono (turn i v m' γ' mu' h2 tk2 hlt le hI hP S2) (fun f s₃ h₃ => ?_) fun _ _ e => e
    cases f with
    | next => obtain ⟨m2, γ2, mu2, cv2, h4, tk4, e, l2, i2, S4⟩ := h₃; exact ⟨n - (i + 1), by omega, i + 1, m2, γ2, mu2, cv2, h4, tk4, e, hlt, rfl, le.trans l2, i2, S4⟩
    | cont => obtain ⟨m2, γ2, mu2, cv2, h4, tk4, e, l2, i2, S4⟩ := h₃; exact ⟨n - (i + 1), by omega, i + 1, m2, γ2, mu2, cv2, h4, tk4, e, hlt, rfl, le.trans l2, i2, S4⟩
    | brk => exact h₃
    | ret v => exact h₃
  · refine G.done _ _ _ _ _ _ le S' fun h1 tk1 S1 => wpAny_execs_nil (fin m' γ' mu' cv' h1 tk1 le hI S1)
end
end Mine
local macro_rules | `(tactic| walk_at "assign Tuple") => `(tactic| ((with_reducible rename St _ _ _ _ _ => sX); refine opUnpack sX (Ax.hd (by assumption)) (by assumption) (by rfl) (by rfl) ?_; intro h' tk' S'; clear sX))
local macro_rules | `(tactic| walk_at "compareOp NotIn int ref") => `(tactic| ((with_reducible rename St _ _ _ _ _ => sX); k_dflt (refine' opNotInInts sX ?kX ?kY ?_; (case kX => walk_at "m hl"); (case kY => assumption); k_whole)))
local macro_rules | `(tactic| walk_at "compareOp In int ref") => `(tactic| ((with_reducible rename St _ _ _ _ _ => sX); k_dflt (refine' opInInts sX ?kX ?kY ?_; (case kX => walk_at "m hl"); (case kY => assumption); k_whole)))

/-! part B7 -/
namespace Mine
section
variable {prog : Program} {w : World} {A : Around} {E : Value → Shared → Prop} {s : Shared} {base : Heap} {fr : List Fram} {γ : Gh} {mu : List (Addr × MP)}
  {p : Program} {loose : List Str} {mg mb : Str → Option Value}
/-- what is left of a row without the thing -/
def cutT (t : Int) (r : List Int) : List Int := r.filter (fun z => decide (z ∉ [t]))
def pressR (rows : List (List Int)) (t : Int) (r : List Int) : List Int := if cutT t r ∈ rows then r else cutT t r
theorem anyMem (l : List Int) (k : Int) : (l.any fun x => x == k) = decide (k ∈ l) := by rw [Bool.eq_iff_iff]; simp
theorem pressed {d u : Nat} {Q : Value → Shared → Prop} (S : St base fr γ mu s.heap) (AX : Ax A fr (d + 3) (u + 73)) (X : (Mine.hd.heap_39 w.params).In base) (T : TopRead p loose mg mb base)
   {a : Addr} {vs : List Value} {rows : List (List Int)} {th : Int} {tt : Tok} (ha : GL γ a vs.toArray) (hr : GRs γ vs rows) (so : SortedR rows) (hsz : vs.length ≤ 64) (ri : ∀ r ∈ rows, Rise r ∧ r.length ≤ 30)
   (ret : ∀ b vs' rows' γ' h' tk', γ.Le γ' → GL γ' b vs'.toArray → GRs γ' vs' rows' → SortedR rows' → rows'.Perm (rows.map (pressR rows th)) → St base fr γ' mu h' → Q (.ref b) { s with heap := h', toks := tk' })
   : wpAny (model prog w) A (call (.ref 95) [.ref a, .int th tt]) Q E s := by
  k_dflt (refine' callC (d := d + 2) (u := u + 70) (binds := [("row", .ref a), ("thing", .int th tt)]) S AX X T ?k6 ?k7 ?k9 ?kB ?kN ?_ ?c2 ?c3 ?c4; (case k6 => k_is); (case k7 => k_is); (case k9 => exact BindsTo.of_eq rfl); (case kB => rfl); (case kN => decide); (case c2 => exact rfl); (case c3 => exact rfl); (case c4 => exact rfl))
  intro L h₁ tk S' AX'
  clear S AX
  k_fold
  have S1 : St base _ γ ((L + 1, Cel none) :: mu) h₁ := S'
  clear S'
  walk_at "m walk"
  rename St _ _ _ _ _ => S2
  refine newListM S2 ?_
  intro R h2 tk2 S3
  clear S2
  walk_at "m walk"
  refine wpAny_For ?_
  walk_at "m walk"
  rename St _ _ _ _ _ => S4
  refine iterList S4 AX'.hd ha ?_
  intro it h3 tk3 G S5
  clear S4
  have S6 := S5.rot3.swap
  clear S5
  have lr := hr.length
  refine forGC G S6 rfl rfl rfl (fun i m γ' mu' => ∃ vs' rows', mu' = (R, Lst vs'.toArray) :: mu ∧ m "row" = some (.ref a) ∧ m "thing" = some (.int th tt) ∧ m "pressed" = some (.ref R) ∧ GRs γ' vs' rows' ∧ SortedR rows' ∧ rows'.Perm ((rows.take i).map (pressR rows th)))
    ⟨[], [], rfl, rfl, rfl, rfl, .nil, .nil, .nil⟩ ?_ ?_
  · rintro i v m' γ' mu' h' tk' hi le ⟨vs', rows', rfl, em1, em2, em3, hr', so', pm⟩ hv S7
    clear S6
    obtain ⟨hi2, b, eb, xb, gb, ib⟩ := hr.get i hi
    have ev : v = .ref b := by rw [List.getElem?_eq_getElem hi, eb] at hv; exact (Option.some.inj hv).symm
    subst ev
    have gb' := gb.le le
    walk_at "m walk"
    rename St _ _ _ _ _ => S8
    refine newListF S8 ?_
    intro o1 γ1 h4 tk4 le1 g1 S9
    clear S8
    walk_at "m walk"
    rename St _ _ _ _ _ => S10
    obtain ⟨rr, rl⟩ := ri rows[i] (List.getElem_mem _)
    have lb := ib.length
    refine sld (vs := xb) (ws := [.int th tt]) (d := d + 1) (u := u + 67) S10 AX'.top X T (gb'.le le1) g1 ib (.cons _ _ .nil) (by simp; omega) rr (List.pairwise_singleton _ _) ?_
    intro t p q γ2 h5 tk5 le2 gt gp gq S11
    clear S10
    rw [sl_filter rr (List.pairwise_singleton _ _)] at gp gq
    obtain ⟨pv, gp1, ip⟩ := id gp
    obtain ⟨qv, gq1, iq⟩ := id gq
    walk_at "m walk"
    refine compE (cl := [("members", L + 1)]) (by with_unfolding_all rfl) rfl (by decide) ?_
    walk_at "m walk"
    rename St _ _ _ _ _ => S12
    refine newListF S12 ?_
    intro o2 γ3 h6 tk6 le3 g3 S13
    clear S12
    refine iterList (vs := [.int th tt]) S13 AX'.hd g3 ?_
    intro it2 h7 tk7 G2 S14
    clear S13
    have gb3 := ((gb'.le le1).le le2).le le3
    refine compG G2 S14 (by decide) rfl rfl (by rw [sizeLine_eq]; simp) (fun k _ mu' acc => mu' = (it, LIt a (i + 1)) :: (L + 1, Cel (some (.ref b))) :: (R, Lst vs'.toArray) :: mu ∧ IntsAre acc (([th].take k).filter (fun y => decide (y ∉ rows[i])))) ⟨rfl, .nil⟩ ?_ ?_
    · rintro k v C D mc γ' mu' acc h' tk' E' hk hacc le ⟨rfl, hI⟩ hv hm S15
      clear S14
      have hk0 : k = 0 := by have : k < 1 := hk; omega
      subst hk0
      obtain rfl : Value.int th tt = v := Option.some.inj hv
      cases hI
      have gb4 := gb3.le le
      walk_at "m walk"
      rename St _ _ _ _ _ => S16
      refine ⟨γ', _, _, _, _, rfl, Gh.Le.rfl, hm, S16, ?_⟩
      rw [anyMem]
      by_cases hq : th ∈ rows[i]
      · rw [if_neg (by simp [hq])]
        exact ⟨rfl, by simp [hq]; exact .nil⟩
      · rw [if_pos (by simp [hq])]
        walk_at "m walk"
        rename St _ _ _ _ _ => S17
        exact ⟨γ', _, _, _, _, rfl, Gh.Le.rfl, S17, rfl, by simp [hq]; exact .cons _ _ .nil⟩
    · rintro C D mc γ4 mu' acc h' tk' hacc le4 ⟨rfl, hI⟩ S15
      clear S14
      refine compFin S15 ?_
      intro h8 tk8 S16
      obtain ⟨γ5, l1, gD, S17⟩ := S16.freezeL
      clear S15 S16
      have gq4 := ((gq1.le le3).le le4).le l1
      walk_at "m walk"
      case _ => 
        rename St _ _ _ _ _ => S18
        refine newListF S18 ?_
        intro o3 γ6 h9 tk9 le6 g6 S19
        clear S18
        walk_at "m walk"
        rename St _ _ _ _ _ => S20
        have gb6 := ((gb3.le le4).le l1).le le6
        refine sld (vs := [.int th tt]) (ws := xb) (d := d + 1) (u := u + 67) S20 AX'.top X T g6 gb6 (.cons _ _ .nil) ib (by simp; omega) (List.pairwise_singleton _ _) rr ?_
        intro t2 p2 q2 γ7 h10 tk10 le7 gt2 gp2 gq2 S21
        clear S20
        rw [sl_filter (List.pairwise_singleton _ _) rr] at gp2 gq2
        walk_at "m walk"
        rename St _ _ _ _ _ => S22
        refine newTupF S22 ?_
        intro t3 γ8 h11 tk11 le8 g8 S23
        clear S22
        have lf := ((((le3.trans le4).trans l1).trans le6).trans le7).trans le8
        refine opNeSame S23 ((GT.rd2 gt2 gp2 gq2).le le8) (GT.rd2 g8 (gq.le lf) (gp.le lf)) (shaped_d2 _ _) (eqv_d2 _ _) (Ax.room64 AX' (by omega)) ?_
        walk_at "m walk"
        rename St _ _ _ _ _ => S24
        have LT := (le1.trans le2).trans lf
        have hr8 := hr.le (le.trans LT)
        have hr'8 := hr'.le LT
        have lv : vs'.length = i := by
          rw [hr'.length, pm.length_eq, List.length_map, List.length_take]; omega
        have es : List.map (pressR rows th) (rows.take (i + 1)) = List.map (pressR rows th) (rows.take i) ++ [pressR rows th rows[i]] := by
          rw [List.take_succ_eq_append_getElem hi2, List.map_append]; rfl
        refine among S24 AX'.top X T (HL.fro (ha.le (le.trans LT))) hr8 (gp1.le lf) ip (by rw [sizeLine_eq]; omega) so ?_
        intro h12 tk12 S25
        clear S24
        walk_at "m walk"
        · rename (_ ∈ rows) => hq
          rename St _ _ _ _ _ => S26
          refine insortR' (i := 2) S26 (AX'.top.le (u' := u + 6) (Nat.le_refl _) (by omega)) X T rfl hr'8 (gb.le (le.trans LT)) ib (by rw [sizeLine_eq]; omega) so' ?_
          intro vs2 rows2 h13 tk13 hr2 so2 pm2 S27
          dsimp only [List.set] at S27
          clear S26
          walk_at "m walk"
          rename St _ _ _ _ _ => S28
          have ep : pressR rows th rows[i] = rows[i] := if_pos hq
          exact ⟨_, _, _, _, _, _, rfl, LT, ⟨vs2, rows2, rfl, by walk_at "m val", by walk_at "m val", by walk_at "m val", hr2, so2, by rw [es, ep]; exact (pm2.trans (.cons _ pm)).trans (List.perm_append_comm (l₁ := [rows[i]]))⟩, S28⟩
        · rename (¬ _ ∈ rows) => hq
          rename St _ _ _ _ _ => S26
          refine insortL' (i := 2) S26 (AX'.top.le (u' := u + 6) (Nat.le_refl _) (by omega)) X T rfl hr'8 (gp1.le lf) ip (by rw [sizeLine_eq]; omega) so' ?_
          intro vs2 rows2 h13 tk13 hr2 so2 pm2 S27
          dsimp only [List.set] at S27
          clear S26
          walk_at "m walk"
          rename St _ _ _ _ _ => S28
          have ep : pressR rows th rows[i] = cutT th rows[i] := if_neg hq
          exact ⟨_, _, _, _, _, _, rfl, LT, ⟨vs2, rows2, rfl, by walk_at "m val", by walk_at "m val", by walk_at "m val", hr2, so2, by rw [es, ep]; exact (pm2.trans (.cons _ pm)).trans (List.perm_append_comm (l₁ := [cutT th rows[i]]))⟩, S28⟩
      case _ =>
        rename (¬ _ = _) => hne
        exact absurd rfl hne
  · rintro m' γ' mu' cv' h' tk' le ⟨vs', rows', rfl, em1, em2, em3, hr', so', pm⟩ S7
    walk_at "m walk"
    rename St _ _ _ _ _ => S8
    obtain ⟨o, p1, _, l1, S9⟩ := S8.swap.freeze
    exact ret R vs' rows' _ _ _ (le.trans l1) ⟨o, Gh.put_self, p1⟩ (hr'.le l1) so' (by rw [List.take_of_length_le (by omega)] at pm; exact pm) S9.drop.pop
end
end Mine

/-! part B8 -/
namespace Mine
section
variable {prog : Program} {w : World} {A : Around} {E : Value → Shared → Prop} {s : Shared} {base : Heap} {fr : List Fram} {γ : Gh} {mu : List (Addr × MP)}
  {p : Program} {loose : List Str} {mg mb : Str → Option Value}
/-- the row pressed by the things, one after the other -/
inductive PR : List (List Int) → List Int → List (List Int) → Prop
  | nil {r} : PR r [] r
  | snoc {r os r1 r2 t} : PR r os r1 → SortedR r2 → r2.Perm (r1.map (pressR r1 t)) → PR r (os ++ [t]) r2
theorem cutT_ok {t : Int} {r : List Int} (h : Rise r ∧ r.length ≤ 30) : Rise (cutT t r) ∧ (cutT t r).length ≤ 30 :=
  ⟨h.1.filter _, Nat.le_trans (List.length_filter_le _ _) h.2⟩
theorem pressR_ok {rows : List (List Int)} {t : Int} {r : List Int} (h : Rise r ∧ r.length ≤ 30) : Rise (pressR rows t r) ∧ (pressR rows t r).length ≤ 30 := by
  unfold pressR; split
  · exact h
  · exact cutT_ok h
theorem left {d u : Nat} {Q : Value → Shared → Prop} (S : St base fr γ mu s.heap) (AX : Ax A fr (d + 4) (u + 76)) (X : (Mine.hd.heap_39 w.params).In base) (T : TopRead p loose mg mb base)
   {a o : Addr} {vs ovs : List Value} {rows : List (List Int)} {os : List Int} (ha : GL γ a vs.toArray) (hr : GRs γ vs rows) (so : SortedR rows) (hsz : vs.length ≤ 64) (ri : ∀ r ∈ rows, Rise r ∧ r.length ≤ 30)
   (ho : GL γ o ovs.toArray) (hoi : IntsAre ovs os) (hoz : ovs.length ≤ 64)
   (ret : ∀ b vs' rows' γ' h' tk', γ.Le γ' → GL γ' b vs'.toArray → GRs γ' vs' rows' → SortedR rows' → PR rows os rows' → vs'.length = vs.length → (∀ r ∈ rows', Rise r ∧ r.length ≤ 30) → St base fr γ' mu h' → Q (.ref b) { s with heap := h', toks := tk' })
   : wpAny (model prog w) A (call (.ref 102) [.ref a, .ref o]) Q E s := by
  k_dflt (refine' callP (d := d + 3) (u := u + 73) (binds := [("row", .ref a), ("order", .ref o)]) S AX X T ?k6 ?k7 ?k9 ?kB ?_ ?c5 ?c2 ?c3 ?c4; (case k6 => k_is); (case k7 => k_is); (case k9 => exact BindsTo.of_eq rfl); (case kB => exact locs rfl); (case c5 => decide); (case c2 => exact rfl); (case c3 => exact rfl); (case c4 => exact rfl))
  intro L h₁ tk S' AX'
  clear S AX
  k_fold
  have lo := hoi.length
  walk_at "m walk"
  refine wpAny_For ?_
  walk_at "m walk"
  rename St _ _ _ _ _ => S3
  refine iterList S3 AX'.hd ho ?_
  intro it h3 tk3 G S4
  clear S3
  refine forG G S4 rfl (fun i m γ' mu' => ∃ b vs' rows', mu' = mu ∧ m "left" = some (.ref b) ∧ GL γ' b vs'.toArray ∧ GRs γ' vs' rows' ∧ SortedR rows' ∧ PR rows (os.take i) rows' ∧ vs'.length = vs.length ∧ (∀ r ∈ rows', Rise r ∧ r.length ≤ 30))
    ⟨a, vs, rows, rfl, rfl, ha, hr, so, .nil, rfl, ri⟩ ?_ ?_
  · rintro i v m' γ' mu' h' tk' hi le ⟨b, vs', rows', rfl, hm, gb, hr', so', pr, lv, ri'⟩ hv S5
    clear S4
    obtain ⟨hi2, t, ev⟩ := ints_get hoi i hi
    have ev : v = .int os[i] t := by rw [List.getElem?_eq_getElem hi, ev] at hv; exact (Option.some.inj hv).symm
    subst ev
    walk_at "m walk"
    rename St _ _ _ _ _ => S6
    refine pressed S6 AX'.top X T gb hr' so' (by omega) ri' ?_
    intro b2 vs2 rows2 γ2 h4 tk4 le2 gb2 hr2 so2 pm S7
    clear S6
    walk_at "m walk"
    rename St _ _ _ _ _ => S8
    have es : os.take (i + 1) = os.take i ++ [os[i]] := List.take_succ_eq_append_getElem hi2
    refine ⟨_, _, _, _, _, rfl, le2, ⟨b2, vs2, rows2, rfl, by walk_at "m val", gb2, hr2, so2, es ▸ pr.snoc so2 pm, by rw [hr2.length, pm.length_eq, List.length_map, ← hr'.length, lv], fun r hm => ?_⟩, S8⟩
    obtain ⟨r', hr'm, e⟩ := List.mem_map.mp (pm.mem_iff.mp hm)
    exact e ▸ pressR_ok (ri' r' hr'm)
  · rintro m' γ' mu' h' tk' le ⟨b, vs', rows', rfl, hm, gb, hr', so', pr, lv, ri'⟩ S5
    walk_at "m walk"
    rename St _ _ _ _ _ => S6
    exact ret b vs' rows' _ _ _ le gb hr' so' (by rw [List.take_of_length_le (by omega)] at pr; exact pr) lv ri' S6.pop
end
end Mine

/-! part B9 -/
namespace Mine
section
variable {prog : Program} {w : World} {A : Around} {E : Value → Shared → Prop} {s : Shared} {base : Heap} {fr : List Fram} {γ : Gh} {mu : List (Addr × MP)}
  {p : Program} {loose : List Str} {mg mb : Str → Option Value}
def tru (cs as : List Int) : List Int → Int → Bool
  | [], c => decide (c ∈ cs)
  | t :: r, c => if tru cs as r c = decide (t ∈ as) then tru cs as r (c + 2 ^ t.toNat) else tru cs as r c
theorem anyMem2 (l : List Int) (k : Int) : (l.any fun x => x == k) = decide (k ∈ l) := by rw [Bool.eq_iff_iff]; simp
theorem opSubNeg {value slice : PySem.Expr} {a : Addr} {vs : List Value} {k : Int} {t : Tok} {v : Value} {Q : Value → Shared → Prop} (S : St base fr γ mu s.heap) (x : HL γ mu a vs) (h0 : k < 0) (h1 : -(vs.length : Int) ≤ k) (hfit : -(2 ^ 63) ≤ k) (hv : vs[(k + vs.length).toNat]? = some v) (h : Q v s)
    (hs : subscripted slice false (.ref a) (.int k t) = operate [.ref a, .int k t] (getItem (.ref a) (.int k t)) := by with_unfolding_all rfl) :
    wpAny (model prog w) A (subscriptTail value slice (.ref a) (.int k t)) Q E s :=
  tail_any (S.lis x).typeIs slot_list_getitem.lookup (wpAny_getItem_list_neg (S.lis x) h0 (by simpa using h1) hfit (by simpa using hv) h) hs

theorem lawTrue {d u : Nat} (X : (Mine.hd.heap_39 w.params).In base) (T : TopRead p loose mg mb base) {cs as : List Int} {k q : Addr} {cvs avs : List Value} (hci : IntsAre cvs cs) (hai : IntsAre avs as) :
   ∀ (n : Nat) {A : Around} {E : Value → Shared → Prop} {s : Shared} {fr : List Fram} {γ : Gh} {mu : List (Addr × MP)} {Q : Value → Shared → Prop} (_ : St base fr γ mu s.heap) (_ : Ax A fr (d + n + 1) (u + 3 * n + 67))
   {o : Addr} {ovs : List Value} {os : List Int} {c : Int} {t : Tok} (_ : n ≤ 60) (_ : os.length = n) (_ : GL γ k cvs.toArray) (_ : GL γ q avs.toArray) (_ : GL γ o ovs.toArray) (_ : IntsAre ovs os) (_ : ∀ x ∈ os, 0 ≤ x ∧ x ≤ 60)
   (_ : ∀ γ' h' tk', γ.Le γ' → St base fr γ' mu h' → Q (.bool (tru cs as os.reverse c)) { s with heap := h', toks := tk' }),
   wpAny (model prog w) A (call (.ref 109) [.ref k, .ref o, .ref q, .int c t]) Q E s := by
  intro n
  induction n with
  | zero =>
    intro A E s fr γ mu Q S AX o ovs os c t hn hl hk hq ho hoi hp ret
    k_dflt (refine' callP (d := d) (u := u + 64) (binds := [("codes", .ref k), ("order", .ref o), ("asked", .ref q), ("chosen", .int c t)]) S AX X T ?k6 ?k7 ?k9 ?kB ?_ ?c5 ?c2 ?c3 ?c4; (case k6 => k_is); (case k7 => k_is); (case k9 => exact BindsTo.of_eq rfl); (case kB => exact locs rfl); (case c5 => decide); (case c2 => exact rfl); (case c3 => exact rfl); (case c4 => exact rfl))
    intro L h₁ tk S' AX'
    clear S AX
    k_fold
    have e : os = [] := List.length_eq_zero_iff.mp hl
    subst e
    cases hoi
    have inil : IntsAre [] [] := .nil
    walk_at "m walk"
    rename St _ _ _ _ _ => S1
    refine newListF S1 ?_
    intro o1 γ1 h4 tk4 le1 g1 S2
    clear S1
    have ho1 := ho.le le1
    have hk1 := hk.le le1
    walk_at "m walk"
    rename St _ _ _ _ _ => S3
    have := ret _ h4 tk4 le1 S3.pop
    rw [show tru cs as ([] : List Int).reverse c = cs.any fun x => x == c from (anyMem2 cs c).symm] at this
    exact this
  | succ n ih =>
    intro A E s fr γ mu Q S AX o ovs os c t hn hl hk hq ho hoi hp ret
    k_dflt (refine' callP (d := d + n + 1) (u := u + 3 * n + 67) (binds := [("codes", .ref k), ("order", .ref o), ("asked", .ref q), ("chosen", .int c t)]) S (AX.le (by omega) (by omega)) X T ?k6 ?k7 ?k9 ?kB ?_ ?c5 ?c2 ?c3 ?c4; (case k6 => k_is); (case k7 => k_is); (case k9 => exact BindsTo.of_eq rfl); (case kB => exact locs rfl); (case c5 => decide); (case c2 => exact rfl); (case c3 => exact rfl); (case c4 => exact rfl))
    intro L h₁ tk S' AX'
    clear S AX
    k_fold
    have inil : IntsAre [] [] := .nil
    walk_at "m walk"
    rename St _ _ _ _ _ => S1
    refine newListF S1 ?_
    intro o1 γ1 h4 tk4 le1 g1 S2
    clear S1
    have ho1 := ho.le le1
    have hk1 := hk.le le1
    have hq1 := hq.le le1
    walk_at "m walk"
    · rename (decide (os = []) = true) => hz
      rw [of_decide_eq_true hz] at hl; cases hl
    · have lo := hoi.length
      have hn1 : n < os.length := by omega
      have eo : os = os.take n ++ [os[n]] := by
        have := List.take_succ_eq_append_getElem hn1
        rw [List.take_of_length_le (by omega)] at this; exact this
      have er : os.reverse = os[n] :: (os.take n).reverse := by
        have := congrArg List.reverse eo
        rw [List.reverse_append] at this; exact this
      obtain ⟨hp0, hp1⟩ : 0 ≤ os[n] ∧ os[n] ≤ 60 := hp _ (List.getElem_mem _)
      obtain ⟨_, t1, ev⟩ := ints_get hoi n (by omega)
      have hsl : IntsAre (slicePick ovs.toArray none (some (-1)) none).toList (os.take n) := by
        have := kmk_upto_neg (y := -1) hoi (by decide)
        rw [show os.length - (-(-1 : Int)).toNat = n from by rw [hl]; rfl] at this; exact this
      rename St _ _ _ _ _ => S3
      refine ⟨_, ovs, _, _, _, _, _, _, rfl, S3, HL.fro ho1, by rw [sizeLine_eq]; omega, .none, isPart_int _ _, ?_⟩
      intro o2 γ2 h5 tk5 le2 g2 S4
      clear S3
      walk_at "m walk"
      rename St _ _ _ _ _ => S5
      refine ih S5 AX'.top (o := o2) (ovs := (slicePick ovs.toArray none (some (-1)) none).toList) (os := os.take n) (by omega) (by rw [List.length_take]; omega) (hk1.le le2) (hq1.le le2) (by rw [Array.toArray_toList]; exact g2) hsl (fun x hx => hp x (List.mem_of_mem_take hx)) ?_
      intro γ3 h6 tk6 le3 S6
      clear S5
      have ho3 := (ho1.le le2).le le3
      have hq3 := (hq1.le le2).le le3
      have hk3 := (hk1.le le2).le le3
      walk_at "m walk"
      rename St _ _ _ _ _ => S7
      refine opSubNeg S7 (v := .int os[n] t1) (HL.fro ho3) (by decide) (by omega) (by decide) (by rw [show ((-1 : Int) + ovs.length).toNat = n from by omega, List.getElem?_eq_getElem (by omega), ev]) ?_
      walk_at "m walk"
      · rename ((_ != _) = true) => hb
        rename St _ _ _ _ _ => S8
        rw [anyMem2] at hb
        have := fun h tk => ret γ3 h tk ((le1.trans le2).trans le3)
        rw [er, show tru cs as (os[n] :: (os.take n).reverse) c = tru cs as (os.take n).reverse c from if_neg (by simpa using hb)] at this
        exact this _ _ S8.pop
      · rename ((_ != _) = false) => hb
        rename St _ _ _ _ _ => S8
        rw [anyMem2] at hb
        refine ⟨_, ovs, _, _, _, _, _, _, rfl, S8, HL.fro ho3, by rw [sizeLine_eq]; omega, .none, isPart_int _ _, ?_⟩
        intro o4 γ4 h7 tk7 le4 g4 S9
        clear S8
        have ho4 := ho3.le le4
        walk_at "m walk"
        rename St _ _ _ _ _ => S10
        refine opSubNeg S10 (v := .int os[n] t1) (HL.fro ho4) (by decide) (by omega) (by decide) (by rw [show ((-1 : Int) + ovs.length).toNat = n from by omega, List.getElem?_eq_getElem (by omega), ev]) ?_
        walk_at "m walk"
        rename St _ _ _ _ _ => S11
        refine ih S11 AX'.top (o := o4) (ovs := (slicePick ovs.toArray none (some (-1)) none).toList) (os := os.take n) (by omega) (by rw [List.length_take]; omega) (hk3.le le4) (hq3.le le4) (by rw [Array.toArray_toList]; exact g4) hsl (fun x hx => hp x (List.mem_of_mem_take hx)) ?_
        intro γ5 h8 tk8 le5 S12
        have := fun h tk => ret γ5 h tk ((((le1.trans le2).trans le3).trans le4).trans le5)
        rw [er, show tru cs as (os[n] :: (os.take n).reverse) c = tru cs as (os.take n).reverse (c + 2 ^ os[n].toNat) from if_pos (by simpa using hb)] at this
        exact this _ _ S12.pop
end
end Mine

/-! part B10 -/
namespace Mine
section
variable {prog : Program} {w : World} {A : Around} {E : Value → Shared → Prop} {s : Shared} {base : Heap} {fr : List Fram} {γ : Gh} {mu : List (Addr × MP)}
  {p : Program} {loose : List Str} {mg mb : Str → Option Value}
theorem rise_eq : ∀ {a b : List Int}, Rise a → Rise b → (∀ x, x ∈ a ↔ x ∈ b) → a = b
  | [], [], _, _, _ => rfl
  | [], y :: t, _, _, h => by have := (h y).mpr (.head _); cases this
  | x :: r, [], _, _, h => by have := (h x).mp (.head _); cases this
  | x :: r, y :: t, ha, hb, h => by
    have ha' := List.pairwise_cons.mp ha
    have hb' := List.pairwise_cons.mp hb
    have e : x = y := by
      rcases List.mem_cons.mp ((h x).mp (.head _)) with e | m
      · exact e
      · rcases List.mem_cons.mp ((h y).mpr (.head _)) with e | m'
        · exact e.symm
        · have := hb'.1 x m; have := ha'.1 y m'; omega
    subst e
    congr 1
    refine rise_eq ha'.2 hb'.2 fun z => ⟨fun m => ?_, fun m => ?_⟩
    · rcases List.mem_cons.mp ((h z).mp (.tail _ m)) with e | m'
      · have := ha'.1 z m; omega
      · exact m'
    · rcases List.mem_cons.mp ((h z).mpr (.tail _ m)) with e | m'
      · have := hb'.1 z m; omega
      · exact m'
/-- what the row's set and the chosen share -/
def shareR (S r : List Int) : List Int := S.filter (fun x => decide (x ∈ r))
theorem sl_alone {r S : List Int} (hr : Rise r) (hS : Rise S) : sl r (r.filter (fun x => decide (x ∉ S))) = (shareR S r, []) := by
  rw [sl_filter hr (hr.filter _)]
  refine Prod.ext ?_ ?_ <;> dsimp only
  · refine rise_eq (hr.filter _) (hS.filter _) fun x => ?_
    simp only [shareR, List.mem_filter, decide_eq_true_eq]
    constructor
    · rintro ⟨h1, h2⟩
      exact ⟨Classical.byContradiction fun h => h2 ⟨h1, h⟩, h1⟩
    · rintro ⟨h1, h2⟩
      exact ⟨h2, fun h => h.2 h1⟩
  · rw [List.filter_eq_nil_iff]
    intro x hx
    simp [(List.mem_filter.mp hx).1]
theorem sl_lacking {r S : List Int} (hS : Rise S) : sl S (S.filter (fun x => decide (x ∉ r))) = (shareR S r, []) := by
  rw [sl_filter hS (hS.filter _)]
  refine Prod.ext ?_ ?_ <;> dsimp only
  · refine List.filter_congr fun x hx => ?_
    simp [hx]
  · rw [List.filter_eq_nil_iff]
    intro x hx
    simp [(List.mem_filter.mp hx).1]
theorem shattered {d u : Nat} {Q : Value → Shared → Prop} (S : St base fr γ mu s.heap) (AX : Ax A fr (d + 3) (u + 73)) (X : (Mine.hd.heap_39 w.params).In base) (T : TopRead p loose mg mb base)
   {a c : Addr} {vs cvs : List Value} {rows : List (List Int)} {xs : List Int} (ha : GL γ a vs.toArray) (hr : GRs γ vs rows) (hsz : vs.length ≤ 64) (ri : ∀ r ∈ rows, Rise r ∧ r.length ≤ 30)
   (hc : GL γ c cvs.toArray) (hci : IntsAre cvs xs) (rx : Rise xs) (hx : xs.length ≤ 30)
   (ret : ∀ tr γ' h' tk', γ.Le γ' → SortedR tr → tr.Nodup → (∀ x, x ∈ tr ↔ x ∈ rows.map (shareR xs)) → St base fr γ' mu h' → Q (.bool (decide (tr.length = 2 ^ xs.length))) { s with heap := h', toks := tk' })
   : wpAny (model prog w) A (call (.ref 114) [.ref a, .ref c]) Q E s := by
  k_dflt (refine' callC (d := d + 2) (u := u + 70) (binds := [("row", .ref a), ("chosen", .ref c)]) S AX X T ?k6 ?k7 ?k9 ?kB ?kN ?_ ?c2 ?c3 ?c4; (case k6 => k_is); (case k7 => k_is); (case k9 => exact BindsTo.of_eq rfl); (case kB => rfl); (case kN => decide); (case c2 => exact rfl); (case c3 => exact rfl); (case c4 => exact rfl))
  intro L h₁ tk S' AX'
  clear S AX
  k_fold
  have S1 : St base _ γ ((L + 1, Cel none) :: mu) h₁ := S'
  clear S'
  walk_at "m walk"
  rename St _ _ _ _ _ => S2
  refine newListM S2 ?_
  intro R h2 tk2 S3
  clear S2
  walk_at "m walk"
  refine wpAny_For ?_
  walk_at "m walk"
  rename St _ _ _ _ _ => S4
  refine iterList S4 AX'.hd ha ?_
  intro it h3 tk3 G S5
  clear S4
  have S6 := S5.rot3.swap
  clear S5
  have lr := hr.length
  have lc := hci.length
  refine forGC G S6 rfl rfl rfl (fun i m γ' mu' => ∃ vs' tr, mu' = (R, Lst vs'.toArray) :: mu ∧ m "chosen" = some (.ref c) ∧ m "traces" = some (.ref R) ∧ GRs γ' vs' tr ∧ SortedR tr ∧ tr.Nodup ∧ (∀ x, x ∈ tr ↔ x ∈ (rows.take i).map (shareR xs)) ∧ vs'.length ≤ i)
    ⟨[], [], rfl, rfl, rfl, .nil, .nil, .nil, by simp, Nat.le_refl _⟩ ?_ ?_
  · rintro i v m' γ' mu' h' tk' hi le ⟨vs', tr, rfl, em1, em2, hr', so', nd, me, lv⟩ hv S7
    clear S6
    obtain ⟨hi2, b, eb, xb, gb, ib⟩ := hr.get i hi
    have ev : v = .ref b := by rw [List.getElem?_eq_getElem hi, eb] at hv; exact (Option.some.inj hv).symm
    subst ev
    have gb' := gb.le le
    have hc' := hc.le le
    walk_at "m walk"
    obtain ⟨rr, rl⟩ := ri rows[i] (List.getElem_mem _)
    have lb := ib.length
    refine compA (cl := [("members", L + 1)]) (by with_unfolding_all rfl) (by with_unfolding_all rfl) rfl (by decide) ?_
    walk_at "m walk"
    rename St _ _ _ _ _ => S13
    refine iterList S13 AX'.hd hc' ?_
    intro it2 h7 tk7 G2 S14
    clear S13
    refine compG G2 S14 (by decide) rfl rfl (by rw [sizeLine_eq]; omega) (fun k _ mu' acc => mu' = (it, LIt a (i + 1)) :: (L + 1, Cel (some (.ref b))) :: (R, Lst vs'.toArray) :: mu ∧ IntsAre acc (shareR (xs.take k) rows[i])) ⟨rfl, .nil⟩ ?_ ?_
    · rintro k v C D mc γ2 mu' acc h' tk' E' hk hacc le2 ⟨rfl, hI⟩ hv2 hm S15
      clear S14
      obtain ⟨hk2, t, ev⟩ := ints_get hci k hk
      have ev : v = .int xs[k] t := by rw [List.getElem?_eq_getElem hk, ev] at hv2; exact (Option.some.inj hv2).symm
      subst ev
      have gb4 := gb'.le le2
      have es : shareR (xs.take (k + 1)) rows[i] = shareR (xs.take k) rows[i] ++ (if xs[k] ∈ rows[i] then [xs[k]] else []) := by
        unfold shareR
        rw [List.take_succ_eq_append_getElem hk2, List.filter_append, List.filter_cons]
        simp
      walk_at "m walk"
      rename St _ _ _ _ _ => S16
      refine ⟨γ2, _, _, _, _, rfl, Gh.Le.rfl, hm, S16, ?_⟩
      rw [anyMem]
      by_cases hq : xs[k] ∈ rows[i]
      · rw [if_pos (by simp [hq])]
        rw [if_pos hq] at es
        walk_at "m walk"
        rename St _ _ _ _ _ => S17
        exact ⟨γ2, _, _, _, _, rfl, Gh.Le.rfl, S17, rfl, by rw [es]; exact IntsAre.append hI (.cons _ _ .nil)⟩
      · rw [if_neg (by simp [hq])]
        rw [if_neg hq, List.append_nil] at es
        exact ⟨rfl, by rw [es]; exact hI⟩
    · rintro C D mc γ2 mu' acc h' tk' hacc le2 ⟨rfl, hI⟩ S15
      clear S14
      refine compFinUse S15 rfl ?_
      intro h8 tk8 S16
      obtain ⟨γ3, le3, gD, S17⟩ := S16.freezeL
      clear S15 S16
      rw [List.take_of_length_le (by omega)] at hI
      walk_at "m walk"
      rename St _ _ _ _ _ => S18
      have lF := le2.trans le3
      refine sld (d := d + 1) (u := u + 67) S18 AX'.top X T (gb'.le lF) (hc'.le lF) ib hci (by omega) rr rx ?_
      intro t p q γ4 h9 tk9 le4 gt gp gq S19
      clear S18
      rw [sl_filter rr rx] at gp gq
      obtain ⟨pv, gp1, ip⟩ := id gp
      obtain ⟨qv, gq1, iq⟩ := id gq
      have lp := Nat.le_trans (Nat.le_of_eq ip.length) (List.length_filter_le _ _)
      have lq := Nat.le_trans (Nat.le_of_eq iq.length) (List.length_filter_le _ _)
      walk_at "m walk"
      rename St _ _ _ _ _ => S20
      refine sld (d := d + 1) (u := u + 67) S20 AX'.top X T ((gb'.le lF).le le4) gp1 ib ip (by omega) rr (rr.filter _) ?_
      intro t1 p1 q1 γ5 h10 tk10 le5 gt1 gp2 gq2 S21
      clear S20
      rw [sl_alone rr rx] at gp2 gq2
      walk_at "m walk"
      rename St _ _ _ _ _ => S22
      refine newListF S22 ?_
      intro o1 γ6 h11 tk11 le6 g6 S23
      clear S22
      walk_at "m walk"
      rename St _ _ _ _ _ => S24
      refine newTupF S24 ?_
      intro t2 γ7 h12 tk12 le7 g7 S25
      clear S24
      have gD5 : GI γ3 D (shareR xs rows[i]) := ⟨acc, gD, hI⟩
      have l47 := ((le4.trans le5).trans le6).trans le7
      refine opNeSame S25 (((GT.rd2 gt1 gp2 gq2).le le6).le le7) (GT.rd2 g7 (gD5.le l47) (GI.le ⟨_, g6, .nil⟩ le7)) (shaped_d2 _ _) (eqv_d2 _ _) (Ax.room64 AX' (by omega)) ?_
      walk_at "m walk"
      rename St _ _ _ _ _ => S26
      have l57 := (le5.trans le6).trans le7
      refine sld (d := d + 1) (u := u + 67) S26 AX'.top X T (((hc'.le lF).le le4).le l57) (gq1.le l57) hci iq (by omega) rx (rx.filter _) ?_
      intro t3 p3 q3 γ8 h13 tk13 le8 gt3 gp3 gq3 S27
      clear S26
      rw [sl_lacking rx] at gp3 gq3
      walk_at "m walk"
      rename St _ _ _ _ _ => S28
      refine newListF S28 ?_
      intro o2 γ9 h14 tk14 le9 g9 S29
      clear S28
      walk_at "m walk"
      rename St _ _ _ _ _ => S30
      refine newTupF S30 ?_
      intro t4 γ10 h15 tk15 le10 g10 S31
      clear S30
      have l40 := ((l47.trans le8).trans le9).trans le10
      refine opNeSame S31 (((GT.rd2 gt3 gp3 gq3).le le9).le le10) (GT.rd2 g10 (gD5.le l40) (GI.le ⟨_, g9, .nil⟩ le10)) (shaped_d2 _ _) (eqv_d2 _ _) (Ax.room64 AX' (by omega)) ?_
      have lA := lF.trans l40
      have hr'8 := hr'.le lA
      have es : List.map (shareR xs) (rows.take (i + 1)) = List.map (shareR xs) (rows.take i) ++ [shareR xs rows[i]] := by
        rw [List.take_succ_eq_append_getElem hi2, List.map_append]; rfl
      walk_at "m walk"
      rename St _ _ _ _ _ => S32
      refine among S32 AX'.top X T (vs := vs') (HL.mut (.tail _ (.tail _ (.head _)))) hr'8 (gD.le l40) hI (by rw [sizeLine_eq]; omega) so' ?_
      intro h16 tk16 S33
      clear S32
      walk_at "m walk"
      · rename (_ ∈ tr) => hq
        rename St _ _ _ _ _ => S34
        exact ⟨_, _, _, _, _, _, rfl, lA, ⟨vs', tr, rfl, by walk_at "m val", by walk_at "m val", hr'8, so', nd, fun r => by rw [es, List.mem_append, List.mem_singleton, me]; exact ⟨.inl, fun q => q.elim id fun e => e ▸ (me _).mp hq⟩, by omega⟩, S34⟩
      · rename (¬ _ ∈ tr) => hq
        rename St _ _ _ _ _ => S34
        refine insortR' (i := 2) S34 (AX'.top.le (u' := u + 6) (Nat.le_refl _) (by omega)) X T rfl hr'8 (gD.le l40) hI (by rw [sizeLine_eq]; omega) so' ?_
        intro vs2 rows2 h17 tk17 hr2 so2 pm2 S35
        dsimp only [List.set] at S35
        clear S34
        walk_at "m walk"
        rename St _ _ _ _ _ => S36
        refine ⟨_, _, _, _, _, _, rfl, lA, ⟨vs2, rows2, rfl, by walk_at "m val", by walk_at "m val", hr2, so2, pm2.nodup_iff.mpr (List.nodup_cons.mpr ⟨hq, nd⟩), fun r => ?_, ?_⟩, S36⟩
        · rw [pm2.mem_iff, es, List.mem_cons, List.mem_append, List.mem_singleton, me, or_comm]
        · have := pm2.length_eq; rw [hr2.length, this, List.length_cons, ← hr'8.length]; omega
  · rintro m' γ' mu' cv' h' tk' le ⟨vs', tr, rfl, em1, em2, hr', so', nd, me, lv⟩ S7
    have ltr := hr'.length
    have hc' := hc.le le
    walk_at "m walk"
    rename St _ _ _ _ _ => S8
    have eq : ((vs'.length : Int) == 2 ^ (cvs.length : Int).toNat) = decide (tr.length = 2 ^ xs.length) := by
      rw [Int.toNat_natCast, ltr, lc, Bool.eq_iff_iff, beq_iff_eq, decide_eq_true_eq]
      constructor
      · intro h
        have : (tr.length : Int) = ((2 ^ xs.length : Nat) : Int) := by push_cast; exact h
        exact Int.ofNat.inj this
      · intro h
        rw [h]; push_cast; rfl
    have := fun h tk => ret tr γ' h tk le so' nd (by rw [List.take_of_length_le (by omega)] at me; exact me)
    rw [← eq] at this
    exact this _ _ S8.drop.drop.pop
end
end Mine

/-! part B11 -/
namespace Mine
section
variable {prog : Program} {w : World} {A : Around} {E : Value → Shared → Prop} {s : Shared} {base : Heap} {fr : List Fram} {γ : Gh} {mu : List (Addr × MP)}
  {p : Program} {loose : List Str} {mg mb : Str → Option Value}
theorem ints_erase : ∀ {vs : List Value} {ns : List Int}, IntsAre vs ns → ∀ k, IntsAre (vs.eraseIdx k) (ns.eraseIdx k)
  | _, _, .nil, _ => by simpa using .nil
  | _, _, .cons _ _ r, 0 => by simpa using r
  | _, _, .cons n t r, k + 1 => by simpa using .cons n t (ints_erase r k)

theorem erase_perm : ∀ {ns : List Int} {k : Nat} (h : k < ns.length), (ns[k] :: ns.eraseIdx k).Perm ns
  | a :: r, 0, _ => by simp
  | a :: r, k + 1, h => by
    have h' : k < r.length := by simpa using h
    have := erase_perm h'
    simp only [List.getElem_cons_succ, List.eraseIdx_cons_succ]
    exact (List.Perm.swap _ _ _).trans (.cons _ this)

theorem opPop {a : Addr} {vs : List Value} {i k : Nat} {x : Int} {t : Tok} {v : Value} {Q : Value → Shared → Prop} (S : St base fr γ mu s.heap) (hi : mu[i]? = some (a, Lst vs.toArray)) (hx : x = (k : Int)) (hv : vs[k]? = some v) (hsz : vs.length ≤ sizeLine)
    (h : ∀ h' tk', St base fr γ (mu.set i (a, Lst (vs.eraseIdx k).toArray)) h' → Q v { s with heap := h', toks := tk' }) :
    wpAny (model prog w) A (call (.builtin "list.pop") [.ref a, .int x t]) Q E s := by
  obtain ⟨⟨o, ho, n, e⟩, _⟩ := S.mus _ (List.mem_of_getElem? hi)
  subst e
  have hk : k < vs.length := (List.getElem?_eq_some_iff.mp hv).1
  have hf : Builtin.List.listFitsIndex x = true := by rw [hx]; exact fit_small (Nat.le_of_lt hk) hsz
  have hs : seqIndex? x vs.toArray.size = some k := by rw [hx, List.size_toArray]; exact seqIndex_at hk
  have hz : vs.toArray.size ≤ sizeLine := by rw [List.size_toArray]; exact hsz
  have hy : vs.toArray[k]? = some v := by simpa using hv
  clear hx hsz
  refine call_meets PySem.F.slot_list_pop ⟨_, ho, rfl⟩ PySem.F.entry_list_pop (PySem.F.args_list_pop_2 _ _) (PySem.MeetsSeq.list_pop_at a _ n x t k v hf hs hy hz) ⟨ho, ?_⟩
  refine h _ s.toks (S.turn hi _ ?_)
  simp [Array.eraseIdxIfInBounds, hk]

theorem opAddL {l b : Addr} {vs ws : List Value} {Q : Value → Shared → Prop} (S : St base fr γ mu s.heap) (x : HL γ mu l vs) (y : HL γ mu b ws) (hsz : vs.length + ws.length ≤ sizeLine)
    (h : ∀ c γ' h' tk', γ.Le γ' → GL γ' c (vs ++ ws).toArray → St base fr γ' mu h' → Q (.ref c) { s with heap := h', toks := tk' }) :
    wpAny (model prog w) A (binaryOp .Add (.ref l) (.ref b)) Q E s := by
  obtain ⟨n, ho⟩ := S.lobj x
  obtain ⟨n2, ho2⟩ := S.lobj y
  have e : vs.toArray ++ ws.toArray = (vs ++ ws).toArray := by simp
  refine concat_meets ⟨_, ho, rfl⟩ ⟨_, ho2, rfl⟩ noFill_list_add seq_list_add PySem.F.slot_list_add PySem.F.entry_list_add (PySem.F.args_list_add_2 _ _) (list_addW l b vs.toArray ws.toArray n n2 _ _ _ _ (by simpa using hsz)) ⟨ho, ho2, ?_⟩
  obtain ⟨γ', L, e', S'⟩ := S.newFrozen (fun _ _ e => Heap.get?_push_of_some _ e) (Heap.get?_none_of_le (Nat.le_refl _)) (Heap.get?_push_size (o := { cls := .type "list", data := .seq (vs.toArray ++ ws.toArray) }) s.heap rfl)
  exact h _ γ' _ s.toks L ⟨_, e', 0, by rw [e]⟩ S'

theorem orderC {d u : Nat} {Q : Value → Shared → Prop} (S : St base fr γ mu s.heap) (AX : Ax A fr (d + 1) (u + 3)) (X : (Mine.hd.heap_39 w.params).In base) (T : TopRead p loose mg mb base)
   {c : Int} {t : Tok}
   (ret : ∀ o os γ' h' tk', γ.Le γ' → GI γ' o os → os.Perm [0, 1, 2, 3] → St base fr γ' mu h' → Q (.ref o) { s with heap := h', toks := tk' })
   : wpAny (model prog w) A (call (.ref 76) [.int c t]) Q E s := by
  k_dflt (refine' callP (binds := [("pick", .int c t)]) S AX X T ?k6 ?k7 ?k9 ?kB ?_ ?c5 ?c2 ?c3 ?c4; (case k6 => k_is); (case k7 => k_is); (case k9 => exact BindsTo.of_eq rfl); (case kB => exact locs rfl); (case c5 => decide); (case c2 => exact rfl); (case c3 => exact rfl); (case c4 => exact rfl))
  intro L h₁ tk S' AX'
  clear S AX
  k_fold
  walk_at "m walk"
  rename St _ _ _ _ _ => S1
  refine newListM S1 ?_
  intro R h2 tk2 S2
  clear S1
  obtain ⟨v0, i0, S3⟩ : ∃ v0, IntsAre v0 [0, 1, 2, 3] ∧ St base _ γ ((R, Lst v0.toArray) :: mu) h2 := ⟨_, .cons _ _ (.cons _ _ (.cons _ _ (.cons _ _ .nil))), S2⟩
  clear S2
  have z0 : v0.length = 4 := i0.length
  have f0 : 0 ≤ c.fmod 4 ∧ c.fmod 4 < 4 := ⟨Int.fmod_nonneg_of_pos _ (by decide), Int.fmod_lt_of_pos _ (by decide)⟩
  have f1 : 0 ≤ (c.fdiv 4).fmod 3 ∧ (c.fdiv 4).fmod 3 < 3 := ⟨Int.fmod_nonneg_of_pos _ (by decide), Int.fmod_lt_of_pos _ (by decide)⟩
  have f2 : 0 ≤ (c.fdiv 12).fmod 2 ∧ (c.fdiv 12).fmod 2 < 2 := ⟨Int.fmod_nonneg_of_pos _ (by decide), Int.fmod_lt_of_pos _ (by decide)⟩
  obtain ⟨k0, e0⟩ : ∃ k : Nat, c.fmod 4 = (k : Int) := ⟨(c.fmod 4).toNat, by omega⟩
  obtain ⟨k1, e1⟩ : ∃ k : Nat, (c.fdiv 4).fmod 3 = (k : Int) := ⟨((c.fdiv 4).fmod 3).toNat, by omega⟩
  obtain ⟨k2, e2⟩ : ∃ k : Nat, (c.fdiv 12).fmod 2 = (k : Int) := ⟨((c.fdiv 12).fmod 2).toNat, by omega⟩
  have i1 := ints_erase i0 k0
  have i2 := ints_erase i1 k1
  have i3 := ints_erase i2 k2
  have z1 : (v0.eraseIdx k0).length = 3 := by rw [List.length_eraseIdx_of_lt (by omega), z0]
  have z2 : ((v0.eraseIdx k0).eraseIdx k1).length = 2 := by rw [List.length_eraseIdx_of_lt (by omega), z1]
  have z3 : (((v0.eraseIdx k0).eraseIdx k1).eraseIdx k2).length = 1 := by rw [List.length_eraseIdx_of_lt (by omega), z2]
  obtain ⟨n0, t0, a0⟩ := ints_get i0 k0 (by omega)
  obtain ⟨n1, t1, a1⟩ := ints_get i1 k1 (by omega)
  obtain ⟨n2, t2, a2⟩ := ints_get i2 k2 (by omega)
  have p0 := erase_perm n0
  have p1 := erase_perm n1
  have p2 := erase_perm n2
  walk_at "m walk"
  rename St _ _ _ _ _ => S4
  refine opPop (i := 0) (k := k0) (v := .int _ t0) S4 rfl e0 (by rw [List.getElem?_eq_getElem (by omega), a0]) (by rw [sizeLine_eq]; omega) ?_
  intro h5 tk5 S5
  dsimp only [List.set] at S5
  clear S4
  walk_at "m walk"
  rename St _ _ _ _ _ => S4
  refine opPop (i := 0) (k := k1) (v := .int _ t1) S4 rfl e1 (by rw [List.getElem?_eq_getElem (by omega), a1]) (by rw [sizeLine_eq]; omega) ?_
  intro h6 tk6 S6
  dsimp only [List.set] at S6
  clear S4
  walk_at "m walk"
  rename St _ _ _ _ _ => S4
  refine opPop (i := 0) (k := k2) (v := .int _ t2) S4 rfl e2 (by rw [List.getElem?_eq_getElem (by omega), a2]) (by rw [sizeLine_eq]; omega) ?_
  intro h7 tk7 S7
  dsimp only [List.set] at S7
  clear S4
  walk_at "m walk"
  rename St _ _ _ _ _ => S8
  refine newListF S8 ?_
  intro o1 γ1 h8 tk8 le1 g1 S9
  clear S8
  walk_at "m walk"
  rename St _ _ _ _ _ => S10
  refine opAddL S10 (HL.fro g1) (HL.mut (.head _)) (by rw [sizeLine_eq]; simp; omega) ?_
  intro o2 γ2 h9 tk9 le2 g2 S11
  clear S10
  walk_at "m walk"
  rename St _ _ _ _ _ => S12
  refine ret o2 _ γ2 _ _ (le1.trans le2) ⟨_, g2, IntsAre.append (.cons _ _ (.cons _ _ (.cons _ _ .nil))) i3⟩ ?_ S12.drop.pop
  exact ((List.Perm.cons _ (List.Perm.cons _ p2)).trans (List.Perm.cons _ p1)).trans p0
end
end Mine

/-! part B12 -/
namespace Mine
section
variable {prog : Program} {w : World} {A : Around} {E : Value → Shared → Prop} {s : Shared} {base : Heap} {fr : List Fram} {γ : Gh} {mu : List (Addr × MP)}
  {p : Program} {loose : List Str} {mg mb : Str → Option Value}
theorem opListOf {l : Addr} {vs : List Value} {Q : Value → Shared → Prop} (S : St base fr γ mu s.heap) (x : HL γ mu l vs) (hsz : vs.length ≤ sizeLine)
    (h : ∀ c h' tk', St base fr γ ((c, Lst vs.toArray) :: mu) h' → Q (.ref c) { s with heap := h', toks := tk' }) : wpAny (model prog w) A (call (.type "list") [.ref l]) Q E s := by
  obtain ⟨n, e⟩ := S.lobj x
  exact call_list_seq (hsz := by rw [List.size_toArray]; exact hsz) l (.inl rfl) e rfl rfl fun h' c' hk hD => h _ h' s.toks (S.new hk (Heap.get?_none_of_le (Nat.le_refl _)) hD ⟨c', rfl⟩)
/-- a list of the world's, of which only its items are known -/
def GW (γ : Gh) (a : Addr) (vs : List Value) : Prop := ∃ o, γ a = some o ∧ o.cls = .type "list" ∧ ∃ n, o.data = .seq vs.toArray n
theorem GW.le {γ γ' : Gh} {a : Addr} {vs : List Value} (x : GW γ a vs) (l : γ.Le γ') : GW γ' a vs := let ⟨o, ho, r⟩ := x; ⟨o, l _ _ ho, r⟩
theorem St.isW {h : Heap} {a : Addr} {vs : List Value} (S : St base fr γ mu h) (x : GW γ a vs) : h.IsList a vs.toArray := let ⟨o, ho, hc, n, hd⟩ := x; ⟨o, S.sub _ _ ho, hc, n, hd⟩
theorem opLenW {a : Addr} {vs : List Value} {Q : Value → Shared → Prop} (S : St base fr γ mu s.heap) (x : GW γ a vs) (hsz : vs.length ≤ sizeLine) (h : ∀ t tk', Q (.int vs.length t) { s with toks := tk' }) :
    wpAny (model prog w) A (call (.builtin "len") [.ref a]) Q E s := by
  refine Calls.call_function_entry kind_len plain_len entry_len (args_len1 _) ?_
  exact wpAny_len_body_list (S.isW x) (by rw [sizeLine_eq] at hsz; simp; omega) (by simpa using h _ _)
theorem opSubW {value slice : PySem.Expr} {a : Addr} {vs : List Value} {k : Int} {t : Tok} {v : Value} {Q : Value → Shared → Prop} (S : St base fr γ mu s.heap) (x : GW γ a vs) (h0 : 0 ≤ k) (hhi : k < 2 ^ 63) (hv : vs[k.toNat]? = some v) (h : Q v s)
    (hs : subscripted slice false (.ref a) (.int k t) = operate [.ref a, .int k t] (getItem (.ref a) (.int k t)) := by with_unfolding_all rfl) :
    wpAny (model prog w) A (subscriptTail value slice (.ref a) (.int k t)) Q E s :=
  tail_any (S.isW x).typeIs slot_list_getitem.lookup (wpAny_getItem_list (S.isW x) h0 hhi (by simpa using hv) h) hs

theorem opSetItem {l : Addr} {vs : List Value} {i j : Nat} {k : Int} {t : Tok} {v : Value} {Q : Unit → Shared → Prop} (S : St base fr γ mu s.heap) (hi : mu[i]? = some (l, Lst vs.toArray)) (hk : k = (j : Int)) (hj : j < vs.length) (hsz : vs.length ≤ sizeLine)
    (hQ : ∀ h' tk', St base fr γ (mu.set i (l, Lst (vs.set j v).toArray)) h' → Q () { s with heap := h', toks := tk' }) :
    wpAny (model prog w) A (setItem (.ref l) (.int k t) v) Q E s := by
  obtain ⟨⟨o, ho, n, e⟩, _⟩ := S.mus _ (List.mem_of_getElem? hi)
  have hl : s.heap.IsList l vs.toArray := ⟨o, ho, by rw [e], n, by rw [e]⟩
  have hd : o.data = .seq vs.toArray n := by rw [e]
  rw [sizeLine_eq] at hsz
  unfold setItem
  try with_reducible refine wpAny_holding ?_
  first | refine wpAny_bind (wpAny_pure ?_) | skip
  refine wpAny_bind (wpAny_sequenceKey hl.typeIs (by decide) ?_)
  refine wpAny_bind (wpAny_callSpecial?_slot (name := Str.ofString "__setitem__") hl.typeIs slot_list_setitem
    (wpAny_call_entry slot_list_setitem hl.typeIs entry_list_setitem ?_ (args_list_setitem _ _ _)))
  show wpAny _ _ (Builtin.List.listSubscript? (.int k t) >>= _) _ _ s
  refine wpAny_bind (wpAny_listSubscript_int (fitsIndex_of (by omega) (by omega)) ?_)
  subst hk
  have hj' : j < vs.toArray.size := by rw [List.size_toArray]; exact hj
  have hx' : vs.toArray[j]? = some vs.toArray[j] := Array.getElem?_eq_getElem hj'
  show wpAny _ _ ((seqItemAt l j >>= fun r => pure (r.map (j, ·))) >>= _) _ _ s
  refine wpAny_bind (wpAny_bind (wpAny_seqItemAt ho hd (wpAny_pure ?_)))
  rw [hx']
  show wpAny _ _ (setSeqItemAt l j v >>= _) _ _ s
  refine wpAny_bind (wpAny_setSeqItemAt ho hd ?_)
  have fin := hQ _ s.toks (S.turn hi (·.setIfInBounds j v) (ys := vs.set j v) (by simp))
  first
    | exact wpAny_bind (wpAny_pure (wpAny_pure ⟨.none, rfl, wpAny_pure fin⟩))
    | exact wpAny_pure ⟨.none, rfl, wpAny_pure fin⟩

theorem ints_set : ∀ {vs : List Value} {ns : List Int}, IntsAre vs ns → ∀ (k : Nat) (x : Int) (t : Tok), IntsAre (vs.set k (.int x t)) (ns.set k x)
  | _, _, .nil, _, _, _ => by simpa using .nil
  | _, _, .cons _ _ r, 0, x, t => by simpa using .cons x t r
  | _, _, .cons n t r, k + 1, x, t' => by simpa using .cons n t (ints_set r k x t')

theorem added {d u : Nat} {Q : Value → Shared → Prop} (S : St base fr γ mu s.heap) (AX : Ax A fr (d + 1) (u + 3)) (X : (Mine.hd.heap_39 w.params).In base) (T : TopRead p loose mg mb base)
   {a f : Addr} {svs fvs : List Value} {ss fs : List Int} (ha : GW γ a svs) (hs : IntsAre svs ss) (hsz : svs.length ≤ 64) (hf : GL γ f fvs.toArray) (hfi : IntsAre fvs fs) (hfz : fvs.length = 7)
   (ret : ∀ o os γ' h' tk', γ.Le γ' → GI γ' o os → os.length = 7 → St base fr γ' mu h' → Q (.ref o) { s with heap := h', toks := tk' })
   : wpAny (model prog w) A (call (.ref 64) [.ref a, .ref f]) Q E s := by
  k_dflt (refine' callP (binds := [("script", .ref a), ("first", .ref f)]) S AX X T ?k6 ?k7 ?k9 ?kB ?_ ?c5 ?c2 ?c3 ?c4; (case k6 => k_is); (case k7 => k_is); (case k9 => exact BindsTo.of_eq rfl); (case kB => exact locs rfl); (case c5 => decide); (case c2 => exact rfl); (case c3 => exact rfl); (case c4 => exact rfl))
  intro L h₁ tk S' AX'
  clear S AX
  k_fold
  have ls := hs.length
  walk_at "m walk"
  rename St _ _ _ _ _ => S1
  refine opListOf S1 (HL.fro hf) (by rw [sizeLine_eq]; omega) ?_
  intro c h2 tk2 S2
  clear S1
  walk_at "m walk"
  refine wpAny_For ?_
  walk_at "m walk"
  rename St _ _ _ _ _ => S3
  refine opLenW S3 ha (by rw [sizeLine_eq]; omega) ?_
  intro t1 tk3
  walk_at "m walk"
  rename St _ _ _ _ _ => S4
  rename RG _ _ _ => gr
  rename Gh.Le _ _ => le1
  refine iterRange S4 AX'.hd gr (by rw [sizeLine_eq]; omega) ?_
  intro it h4 tk4 G S5
  clear S4
  refine forG G S5 rfl (fun i m γ' mu' => ∃ cvs cs, mu' = (c, Lst cvs.toArray) :: mu ∧ m "script" = some (.ref a) ∧ m "first" = some (.ref f) ∧ m "cells" = some (.ref c) ∧ IntsAre cvs cs ∧ cvs.length = 7)
    ⟨fvs, fs, rfl, rfl, rfl, rfl, hfi, hfz⟩ ?_ ?_
  · rintro i v m' γ' mu' h' tk' hi le ⟨cvs, cs, rfl, em1, em2, em3, ci, cz⟩ ⟨tt, rfl⟩ S6
    clear S5
    have hf' := hf.le (le1.trans le)
    have ha' := ha.le (le1.trans le)
    have lc := ci.length
    have hfl : (fvs.length : Int) = 7 := by omega
    have hm : (i : Int).fmod (fvs.length : Int) = ((i % 7 : Nat) : Int) := by rw [hfl, Int.fmod_eq_emod_of_nonneg _ (by decide)]; omega
    have hlt : i % 7 < 7 := Nat.mod_lt _ (by decide)
    obtain ⟨hc2, tc, ec⟩ := ints_get ci (i % 7) (by omega)
    obtain ⟨hs2, ts, es⟩ := ints_get hs i hi
    walk_at "m walk"
    rename St _ _ _ _ _ => S7
    refine opItem S7 (v := .int cs[i % 7] tc) (HL.mut (.tail _ (.head _))) (by rw [hm]; omega) (by rw [hm]; omega) (by rw [hm, Int.toNat_natCast, List.getElem?_eq_getElem (by omega), ec]) ?_
    walk_at "m walk"
    rename St _ _ _ _ _ => S8
    refine opSubW S8 (v := .int ss[i] ts) ha' (by omega) (by omega) (by rw [Int.toNat_natCast, List.getElem?_eq_getElem hi, es]) ?_
    walk_at "m walk"
    rename St _ _ _ _ _ => S9
    refine opSetItem (i := 1) (j := i % 7) S9 rfl hm (by omega) (by rw [sizeLine_eq]; omega) ?_
    intro h5 tk5 S10
    dsimp only [List.set] at S10
    clear S9
    walk_at "m walk"
    rename St _ _ _ _ _ => S11
    exact ⟨_, γ', _, _, _, rfl, Gh.Le.rfl, ⟨_, _, rfl, by walk_at "m val", by walk_at "m val", by walk_at "m val", ints_set ci _ _ _, by rw [List.length_set]; exact cz⟩, S11⟩
  · rintro m' γ' mu' h' tk' le ⟨cvs, cs, rfl, em1, em2, em3, ci, cz⟩ S6
    walk_at "m walk"
    rename St _ _ _ _ _ => S7
    obtain ⟨γ2, l2, gc, S8⟩ := S7.freezeL
    exact ret c cs γ2 _ _ ((le1.trans le).trans l2) ⟨cvs, gc, ci⟩ (by rw [← ci.length]; exact cz) S8.pop
end
end Mine

/-! part P3 -/
namespace Mine
def goT {α : Type} (lt : Nat → Nat → Bool) : KasT α → α
  | .ret a => a
  | .ask i j k => goT lt (k (lt i j))
def okT {α : Type} (n : Nat) (lt : Nat → Nat → Bool) : KasT α → Bool
  | .ret _ => true
  | .ask i j k => decide (i < n) && decide (j < n) && okT n lt (k (lt i j))
def ltS (σ : List Nat) (i j : Nat) : Bool := decide (σ.getD i 0 < σ.getD j 0)
def chk1 (n : Nat) (σ : List Nat) : Bool :=
  okT n (ltS σ) (kas_sort n) && (let p := (goT (ltS σ) (kas_sort n)).toList; p.isPerm (List.range n) && (p.map fun i => σ.getD i 0) == List.range n)
def chk (n : Nat) : Nat → List Nat → Bool
  | 0, σ => chk1 n σ
  | k + 1, σ => (List.range n).all fun a => σ.contains a || chk n k (σ ++ [a])
theorem chk_all (n : Nat) : ∀ (k : Nat) (pre rest : List Nat), chk n k pre = true → rest.length = k → (pre ++ rest).Nodup → (∀ a ∈ rest, a < n) → chk1 n (pre ++ rest) = true
  | 0, pre, rest, h, hl, _, _ => by
    have : rest = [] := List.length_eq_zero_iff.mp hl
    subst this
    rw [List.append_nil]; exact h
  | k + 1, pre, [], _, hl, _, _ => by cases hl
  | k + 1, pre, a :: r, h, hl, nd, hm => by
    have e : pre ++ a :: r = (pre ++ [a]) ++ r := by simp
    rw [e] at nd ⊢
    refine chk_all n k (pre ++ [a]) r ?_ (by simpa using hl) nd fun b hb => hm b (.tail _ hb)
    have := List.all_eq_true.mp h a (List.mem_range.mpr (hm a (.head _)))
    rcases (Bool.or_eq_true _ _).mp this with q | q
    · have q' : a ∈ pre := by simpa using q
      rw [List.append_assoc] at nd
      exact absurd rfl ((List.nodup_append.mp nd).2.2 a q' a (by simp))
    · exact q
set_option maxHeartbeats 40000000 in
theorem chk_2 : chk 2 2 [] = true := by decide +kernel
set_option maxHeartbeats 40000000 in
theorem chk_3 : chk 3 3 [] = true := by decide +kernel
set_option maxHeartbeats 40000000 in
theorem chk_4 : chk 4 4 [] = true := by decide +kernel
set_option maxHeartbeats 40000000 in
theorem chk_5 : chk 5 5 [] = true := by decide +kernel
theorem chk_step {n k : Nat} {σ : List Nat} (h : ∀ a, a < n → ¬ a ∈ σ → chk n k (σ ++ [a]) = true) : chk n (k + 1) σ = true := by
  refine List.all_eq_true.mpr fun a ha => ?_
  by_cases hm : a ∈ σ
  · rw [show σ.contains a = true from by simpa using hm]; rfl
  · rw [h a (List.mem_range.mp ha) hm, Bool.or_true]
set_option maxHeartbeats 40000000 in
theorem chk_six_01 : chk 6 4 [0, 1] = true := by decide +kernel
set_option maxHeartbeats 40000000 in
theorem chk_six_02 : chk 6 4 [0, 2] = true := by decide +kernel
set_option maxHeartbeats 40000000 in
theorem chk_six_03 : chk 6 4 [0, 3] = true := by decide +kernel
set_option maxHeartbeats 40000000 in
theorem chk_six_04 : chk 6 4 [0, 4] = true := by decide +kernel
set_option maxHeartbeats 40000000 in
theorem chk_six_05 : chk 6 4 [0, 5] = true := by decide +kernel
set_option maxHeartbeats 40000000 in
theorem chk_six_10 : chk 6 4 [1, 0] = true := by decide +kernel
set_option maxHeartbeats 40000000 in
theorem chk_six_12 : chk 6 4 [1, 2] = true := by decide +kernel
set_option maxHeartbeats 40000000 in
theorem chk_six_13 : chk 6 4 [1, 3] = true := by decide +kernel
set_option maxHeartbeats 40000000 in
theorem chk_six_14 : chk 6 4 [1, 4] = true := by decide +kernel
set_option maxHeartbeats 40000000 in
theorem chk_six_15 : chk 6 4 [1, 5] = true := by decide +kernel
set_option maxHeartbeats 40000000 in
theorem chk_six_20 : chk 6 4 [2, 0] = true := by decide +kernel
set_option maxHeartbeats 40000000 in
theorem chk_six_21 : chk 6 4 [2, 1] = true := by decide +kernel
set_option maxHeartbeats 40000000 in
theorem chk_six_23 : chk 6 4 [2, 3] = true := by decide +kernel
set_option maxHeartbeats 40000000 in
theorem chk_six_24 : chk 6 4 [2, 4] = true := by decide +kernel
set_option maxHeartbeats 40000000 in
theorem chk_six_25 : chk 6 4 [2, 5] = true := by decide +kernel
set_option maxHeartbeats 40000000 in
theorem chk_six_30 : chk 6 4 [3, 0] = true := by decide +kernel
set_option maxHeartbeats 40000000 in
theorem chk_six_31 : chk 6 4 [3, 1] = true := by decide +kernel
set_option maxHeartbeats 40000000 in
theorem chk_six_32 : chk 6 4 [3, 2] = true := by decide +kernel
set_option maxHeartbeats 40000000 in
theorem chk_six_34 : chk 6 4 [3, 4] = true := by decide +kernel
set_option maxHeartbeats 40000000 in
theorem chk_six_35 : chk 6 4 [3, 5] = true := by decide +kernel
set_option maxHeartbeats 40000000 in
theorem chk_six_40 : chk 6 4 [4, 0] = true := by decide +kernel
set_option maxHeartbeats 40000000 in
theorem chk_six_41 : chk 6 4 [4, 1] = true := by decide +kernel
set_option maxHeartbeats 40000000 in
theorem chk_six_42 : chk 6 4 [4, 2] = true := by decide +kernel
set_option maxHeartbeats 40000000 in
theorem chk_six_43 : chk 6 4 [4, 3] = true := by decide +kernel
set_option maxHeartbeats 40000000 in
theorem chk_six_45 : chk 6 4 [4, 5] = true := by decide +kernel
set_option maxHeartbeats 40000000 in
theorem chk_six_50 : chk 6 4 [5, 0] = true := by decide +kernel
set_option maxHeartbeats 40000000 in
theorem chk_six_51 : chk 6 4 [5, 1] = true := by decide +kernel
set_option maxHeartbeats 40000000 in
theorem chk_six_52 : chk 6 4 [5, 2] = true := by decide +kernel
set_option maxHeartbeats 40000000 in
theorem chk_six_53 : chk 6 4 [5, 3] = true := by decide +kernel
set_option maxHeartbeats 40000000 in
theorem chk_six_54 : chk 6 4 [5, 4] = true := by decide +kernel
theorem chk_six_0 : chk 6 5 [0] = true := chk_step fun b hb hn => by
  match b, hb, hn with
  | 0, _, hn => exact absurd (List.Mem.head _) hn
  | 1, _, _ => exact chk_six_01
  | 2, _, _ => exact chk_six_02
  | 3, _, _ => exact chk_six_03
  | 4, _, _ => exact chk_six_04
  | 5, _, _ => exact chk_six_05
  | b + 6, hb, _ => omega
theorem chk_six_1 : chk 6 5 [1] = true := chk_step fun b hb hn => by
  match b, hb, hn with
  | 0, _, _ => exact chk_six_10
  | 1, _, hn => exact absurd (List.Mem.head _) hn
  | 2, _, _ => exact chk_six_12
  | 3, _, _ => exact chk_six_13
  | 4, _, _ => exact chk_six_14
  | 5, _, _ => exact chk_six_15
  | b + 6, hb, _ => omega
theorem chk_six_2 : chk 6 5 [2] = true := chk_step fun b hb hn => by
  match b, hb, hn with
  | 0, _, _ => exact chk_six_20
  | 1, _, _ => exact chk_six_21
  | 2, _, hn => exact absurd (List.Mem.head _) hn
  | 3, _, _ => exact chk_six_23
  | 4, _, _ => exact chk_six_24
  | 5, _, _ => exact chk_six_25
  | b + 6, hb, _ => omega
theorem chk_six_3 : chk 6 5 [3] = true := chk_step fun b hb hn => by
  match b, hb, hn with
  | 0, _, _ => exact chk_six_30
  | 1, _, _ => exact chk_six_31
  | 2, _, _ => exact chk_six_32
  | 3, _, hn => exact absurd (List.Mem.head _) hn
  | 4, _, _ => exact chk_six_34
  | 5, _, _ => exact chk_six_35
  | b + 6, hb, _ => omega
theorem chk_six_4 : chk 6 5 [4] = true := chk_step fun b hb hn => by
  match b, hb, hn with
  | 0, _, _ => exact chk_six_40
  | 1, _, _ => exact chk_six_41
  | 2, _, _ => exact chk_six_42
  | 3, _, _ => exact chk_six_43
  | 4, _, hn => exact absurd (List.Mem.head _) hn
  | 5, _, _ => exact chk_six_45
  | b + 6, hb, _ => omega
theorem chk_six_5 : chk 6 5 [5] = true := chk_step fun b hb hn => by
  match b, hb, hn with
  | 0, _, _ => exact chk_six_50
  | 1, _, _ => exact chk_six_51
  | 2, _, _ => exact chk_six_52
  | 3, _, _ => exact chk_six_53
  | 4, _, _ => exact chk_six_54
  | 5, _, hn => exact absurd (List.Mem.head _) hn
  | b + 6, hb, _ => omega
theorem chk_6 : chk 6 6 [] = true := chk_step fun b hb _ => by
  match b, hb with
  | 0, _ => exact chk_six_0
  | 1, _ => exact chk_six_1
  | 2, _ => exact chk_six_2
  | 3, _ => exact chk_six_3
  | 4, _ => exact chk_six_4
  | 5, _ => exact chk_six_5
  | b + 6, hb => omega
end Mine

/-! part F12 -/
namespace Mine
theorem kas_go {α : Type} {cmp : Nat → Nat → (Bool → Shared → Prop) → Shared → Prop} {n : Nat} {lt : Nat → Nat → Bool} {Q : α → Shared → Prop} {s : Shared} (hc : ∀ i j C, i < n → j < n → C (lt i j) s → cmp i j C s) :
    ∀ (t : KasT α), okT n lt t = true → Q (goT lt t) s → t.kasWp cmp Q s
  | .ret _, _, h => h
  | .ask i j k, ho, h => by
    simp only [okT, Bool.and_eq_true, decide_eq_true_eq] at ho
    exact hc i j _ ho.1.1 ho.1.2 (kas_go hc (k (lt i j)) ho.2 h)

section
variable {prog : Program} {w : World} {A : Around} {E : Value → Shared → Prop} {s : Shared} {base : Heap} {fr : List Fram} {γ : Gh} {mu : List (Addr × MP)} {l c : Addr} {vs : List Value} {rows : List (List Int)}

theorem keyLt_lists {a b : Addr} {xs ys : List Value} {ns ms : List Int} {Q : Bool → Shared → Prop} (S : St base fr γ mu s.heap) (x : GL γ a xs.toArray) (y : GL γ b ys.toArray) (hx : IntsAre xs ns) (hy : IntsAre ys ms) (hu : A.units < cLine) (h : Q (ltI ns ms) s) :
    wpAny (model prog w) A (keyLt' oneType' (.ref a) (.ref b)) Q E s := by
  obtain ⟨n, ho⟩ := S.lobj (HL.fro x)
  obtain ⟨n2, ho2⟩ := S.lobj (HL.fro y)
  have ht : s.TypeIs (.ref a) "list" := ⟨_, ho, rfl⟩
  rw [keyLt'_oneType, oneLt'_eq]
  simp only [if_true]
  refine wpAny_bind (wpAny_cRoomFor hu ?_)
  refine wpAny_bind (wpAny_callSpecialIfBound?_slot ht PySem.F.slot_list_lt (call_meets PySem.F.slot_list_lt ht PySem.F.entry_list_lt (PySem.F.args_list_lt_2 _ _) (list_lt a b xs ys ns ms hx hy n n2) ⟨ho, ho2, ?_⟩))
  exact wpAny_truthy_bool h

/-- the order that a sort finds -/
def SortOk (n : Nat) (rows : List (List Int)) : Prop := ∃ lt : Nat → Nat → Bool, (∀ i j (hi : i < rows.length) (hj : j < rows.length), lt i j = ltI rows[i] rows[j]) ∧ okT n lt (kas_sort n) = true ∧
  (goT lt (kas_sort n)).toList.Perm (List.range n) ∧ SortedR ((goT lt (kas_sort n)).toList.map fun i => rows.getD i [])

theorem listSort {P : PySem.Fin → Shared → Prop} (S : St base fr γ ((c, Lst vs.toArray) :: mu) s.heap) (hr : GRs γ vs rows) (h64 : vs.length < 64) (hso : 2 ≤ rows.length → SortOk rows.length rows) (hu : A.units < cLine)
    (ret : ∀ vs' rows' h' tk', GRs γ vs' rows' → rows'.Perm rows → SortedR rows' → St base fr γ ((c, Lst vs'.toArray) :: mu) h' → P (.done (.ret .none)) { s with heap := h', toks := tk' }) :
    wpAny (model prog w) A (Builtin.«list.sort» ⟨[.ref c], []⟩) P E s := by
  have lr := hr.length
  obtain ⟨⟨o, ho, n, e⟩, _⟩ := S.mus _ (.head _)
  subst e
  have ho : s.heap.get? c = some (seqObj "list" vs.toArray n) := ho
  have ha : c < s.heap.objs.size := Heap.lt_size ho
  rw [list_sort_plain]
  refine wpAny_bind (listItems_at ho rfl ?_)
  refine wpAny_bind (listUpdate_at ho rfl ?_ (by rw [List.size_toArray, sizeLine_eq]; omega) (Nat.zero_le _))
  have S1 : St base fr γ ((c, Lst ([] : List Value).toArray) :: mu) (s.heap.update c (Obj.mapSeq fun _ => (#[] : Array Value))) := S.turn (i := 0) rfl (fun _ => #[]) (ys := []) rfl
  obtain ⟨e1, ho1⟩ : ∃ e1, (s.heap.update c (Obj.mapSeq fun _ => (#[] : Array Value))).get? c = some (seqObj "list" #[] e1) := ⟨_, get?_update_seq ho fun _ => #[]⟩
  refine wpAny_bind (seqEpoch_at ho1 rfl ?_)
  refine wpAny_bind (wpAny_newTuple ?_ (by show vs.length ≤ _; rw [sizeLine_eq]; omega))
  refine wpAny_bind (wpAny_newList ?_ (Nat.zero_le _))
  refine wpAny_holding ?_
  have k2 : ∀ b x, (s.heap.update c (Obj.mapSeq fun _ => (#[] : Array Value))).get? b = some x → (((s.heap.update c (Obj.mapSeq fun _ => (#[] : Array Value))).push (seqObj "tuple" vs.toArray 0)).push (seqObj "list" #[] 0)).get? b = some x := fun b x e => Heap.get?_push_of_some _ (Heap.get?_push_of_some _ e)
  have S2 := S1.grow k2
  have ho6 := k2 _ _ ho1
  show wpAny (model prog w) A _ P E { s with heap := ((s.heap.update c (Obj.mapSeq fun _ => (#[] : Array Value))).push (seqObj "tuple" vs.toArray 0)).push (seqObj "list" #[] 0) }
  dsimp only
  by_cases h2 : vs.toArray.size < 2
  · rw [if_pos h2, if_pos h2]
    have hs2 : vs.length < 2 := by rw [List.size_toArray] at h2; exact h2
    refine wpAny_bind (wpAny_pure ?_)
    rw [StateT.run_pure]
    refine wpAny_bind (wpAny_pure ?_)
    dsimp only
    refine wpAny_bind (seqEpoch_at ho6 rfl ?_)
    refine wpAny_bind (listUpdate_at ho6 rfl ?_ (Nat.zero_le _) (by rw [Array.size_map]; show (pairsOf vs).size ≤ _; rw [pairsOf_size, sizeLine_eq]; omega))
    simp only [bne_self_eq_false, Bool.false_eq_true, if_false]
    have eo : (arrOf (SortSt.mk' general' (vs.toArray.zip vs.toArray) #[] 7 none)).map (·.2) = vs.toArray := by
      show (vs.toArray.zip vs.toArray).map (·.2) = vs.toArray
      apply Array.toList_inj.mp
      simp [List.map_snd_zip]
    refine wpAny_pure (ret vs rows _ s.toks hr (List.Perm.refl _) ?_ (show St base fr γ ((c, Lst vs.toArray) :: mu) _ from S2.turn (i := 0) (vs := []) (ys := vs) rfl (fun _ => Array.map (fun x : Keyed => x.2) (arrOf (SortSt.mk' general' (vs.toArray.zip vs.toArray) #[] 7 none))) eo))
    match rows, lr with
    | [], _ => exact .nil
    | [x], _ => exact List.pairwise_singleton _ _
    | _ :: _ :: _, lr => simp at lr; omega
  · rw [if_neg h2, if_neg h2]
    rw [List.size_toArray] at h2
    obtain ⟨lt, hlt, hok, hpm, hsr⟩ := hso (by omega)
    rw [← lr] at hok hpm hsr
    refine wpAny_bind (kas_kind (T := .type "list") (by omega) (fun v hv => ?_) (by decide) (by decide) ?_)
    · obtain ⟨i, hi, rfl⟩ := List.mem_iff_getElem.mp hv
      obtain ⟨_, a, ea, xa, ga, _⟩ := hr.get i hi
      obtain ⟨n3, ho3⟩ := S2.lobj (HL.fro ga)
      rw [ea]
      exact (Looks.ld ho3).andThen .now
    have est : SortSt.mk' oneType' (vs.toArray.zip vs.toArray) #[] 7 none = kas_st oneType' (pairsOf vs) (List.toArray (List.range vs.length)) := by
      have e := kas_range (pairsOf vs)
      rw [pairsOf_size] at e
      show SortSt.mk' oneType' (pairsOf vs) #[] 7 none = SortSt.mk' oneType' ((List.toArray (List.range vs.length)).map (kas_item (pairsOf vs))) #[] 7 none
      rw [e]
    have run := kas_runs (E := E) (A := A) (prog := prog) (w := w) (κ := oneType') (it := pairsOf vs) (s := { s with heap := ((s.heap.update c (Obj.mapSeq fun _ => (#[] : Array Value))).push (seqObj "tuple" vs.toArray 0)).push (seqObj "list" #[] 0) })
      (Q := fun _ st' s' => s' = { s with heap := ((s.heap.update c (Obj.mapSeq fun _ => (#[] : Array Value))).push (seqObj "tuple" vs.toArray 0)).push (seqObj "list" #[] 0) } ∧ arrOf st' = (goT lt (kas_sort vs.length)).map (kas_item (pairsOf vs)) ∧ failedOf st' = none)
      (G := fun p s' => s' = { s with heap := ((s.heap.update c (Obj.mapSeq fun _ => (#[] : Array Value))).push (seqObj "tuple" vs.toArray 0)).push (seqObj "list" #[] 0) } ∧ p = goT lt (kas_sort vs.length))
      (n := vs.length) (by omega) h64 (fun p' st' s' a1 a2 a3 a4 => ⟨a4.1, a4.2 ▸ a2, a3⟩) (by
        rw [← kas_ask_eq]
        refine kas_go (n := vs.length) (lt := lt) (fun i j C hi hj hC => ?_) _ hok ⟨rfl, rfl⟩
        obtain ⟨hi2, a, ea, xa, ga, ia⟩ := hr.get i hi
        obtain ⟨hj2, b, eb, xb, gb, ib⟩ := hr.get j hj
        unfold kas_ask
        rw [List.getD_eq_getElem?_getD, List.getD_eq_getElem?_getD, List.getElem?_eq_getElem hi, List.getElem?_eq_getElem hj, Option.getD_some, Option.getD_some, ea, eb]
        rw [hlt i j hi2 hj2] at hC
        exact keyLt_lists S2 ga gb ia ib hu hC)
    rw [← est] at run
    refine wpAny_bind (wpAny_mono run ?_ fun _ _ e => e)
    rintro ⟨⟨⟩, st'⟩ s' ⟨rfl, har, hf⟩
    dsimp only
    have hout : (arrOf st').map (·.2) = ((goT lt (kas_sort vs.length)).toList.map fun i => vs.getD i Value.none).toArray := by
      apply Array.toList_inj.mp
      rw [har, Array.map_map, Array.toList_map]
      exact List.map_congr_left fun i _ => by show (kas_item (pairsOf vs) i).2 = _; rw [kas_item_eq]
    have hsz : ((goT lt (kas_sort vs.length)).toList.map fun i => vs.getD i Value.none).length = vs.length := by rw [List.length_map, hpm.length_eq, List.length_range]
    refine wpAny_bind (seqEpoch_at ho6 rfl ?_)
    refine wpAny_bind (listUpdate_at ho6 rfl ?_ (Nat.zero_le _) (by rw [hout, List.size_toArray, hsz, sizeLine_eq]; omega))
    rw [hf]
    simp only [bne_self_eq_false, Bool.false_eq_true, if_false]
    refine wpAny_pure (ret ((goT lt (kas_sort vs.length)).toList.map fun i => vs.getD i Value.none) ((goT lt (kas_sort vs.length)).toList.map fun i => rows.getD i []) _ s.toks ?_ ?_ hsr (show St base fr γ ((c, Lst ((goT lt (kas_sort vs.length)).toList.map fun i => vs.getD i Value.none).toArray) :: mu) _ from S2.turn (i := 0) (vs := []) rfl (fun _ => Array.map (fun x : Keyed => x.2) (arrOf st')) hout))
    · have hmem : ∀ i ∈ (goT lt (kas_sort vs.length)).toList, i < vs.length := fun i hi => List.mem_range.mp (hpm.mem_iff.mp hi)
      clear hsr hpm hout hsz har run
      revert hmem
      generalize (goT lt (kas_sort vs.length)).toList = p
      intro hmem
      induction p with
      | nil => exact .nil
      | cons i r ih =>
        obtain ⟨hi2, a, ea, ga⟩ := hr.get i (hmem i (.head _))
        rw [List.map_cons, List.map_cons, List.getD_eq_getElem?_getD, List.getD_eq_getElem?_getD, List.getElem?_eq_getElem (hmem i (.head _)), List.getElem?_eq_getElem hi2, Option.getD_some, Option.getD_some, ea]
        exact .cons ga (ih fun j hj => hmem j (.tail _ hj))
    · have := hpm.map fun i => rows.getD i []
      refine this.trans ?_
      have e : (List.range vs.length).map (fun i => rows.getD i []) = rows := by
        rw [lr]
        apply List.ext_getElem
        · simp
        · intro i h1 h2
          simp [h2]
      rw [e]
end
end Mine

/-! part P4 -/
namespace Mine
theorem countP_strict {α : Type} {p q : α → Bool} : ∀ {l : List α}, (∀ x ∈ l, p x = true → q x = true) → (∃ x ∈ l, q x = true ∧ p x = false) → l.countP p < l.countP q
  | [], _, ⟨x, hx, _⟩ => by cases hx
  | a :: r, h, ⟨x, hx, h1, h2⟩ => by
    have hle : ∀ {l : List α}, (∀ x ∈ l, p x = true → q x = true) → l.countP p ≤ l.countP q := fun h => List.countP_mono_left h
    rcases List.mem_cons.mp hx with rfl | hm
    · rw [List.countP_cons, List.countP_cons, h1, h2]
      have := hle fun y hy => h y (.tail _ hy)
      simp only [Bool.false_eq_true, if_false, if_true]; omega
    · have ih := countP_strict (fun y hy => h y (.tail _ hy)) ⟨x, hm, h1, h2⟩
      rw [List.countP_cons, List.countP_cons]
      cases e : p a with
      | false =>
        simp only [Bool.false_eq_true, if_false]
        split <;> omega
      | true =>
        rw [h a (.head _) e]
        simp only [if_true]; omega
def rankR (rows : List (List Int)) (x : List Int) : Nat := rows.countP fun r => ltI r x
theorem rankR_lt {rows : List (List Int)} {a b : List Int} (ha : a ∈ rows) (h : ltI a b = true) : rankR rows a < rankR rows b :=
  countP_strict (fun _ _ hx => ltI_trans hx h) ⟨a, ha, h, ltI_irrefl a⟩
theorem rankR_iff {rows : List (List Int)} {a b : List Int} (ha : a ∈ rows) (hb : b ∈ rows) : decide (rankR rows a < rankR rows b) = ltI a b := by
  cases h : ltI a b with
  | true => exact decide_eq_true (rankR_lt ha h)
  | false =>
    apply decide_eq_false
    cases h' : ltI b a with
    | true => have := rankR_lt hb h'; omega
    | false => rw [ltI_total h h']; omega
theorem rankR_bound {rows : List (List Int)} {a : List Int} (ha : a ∈ rows) : rankR rows a < rows.length := by
  have := countP_strict (p := fun r => ltI r a) (q := fun _ => true) (l := rows) (fun _ _ _ => rfl) ⟨a, ha, rfl, ltI_irrefl a⟩
  rw [show rows.countP (fun _ => true) = rows.length from by simp] at this
  exact this
theorem chk_small : ∀ n, 2 ≤ n → n ≤ 6 → chk n n [] = true
  | 0, h, _ | 1, h, _ => by omega
  | 2, _, _ => chk_2 | 3, _, _ => chk_3 | 4, _, _ => chk_4 | 5, _, _ => chk_5 | 6, _, _ => chk_6
  | n + 7, _, h => by omega
theorem sortOk {rows : List (List Int)} (nd : rows.Nodup) (h2 : 2 ≤ rows.length) (h6 : rows.length ≤ 6) : SortOk rows.length rows := by
  have hσn : (rows.map (rankR rows)).Nodup := by
    unfold List.Nodup at nd ⊢
    rw [List.pairwise_map]
    refine List.Pairwise.imp_of_mem (fun {a b} ha hb hne he => ?_) nd
    have h1 := rankR_iff ha hb
    have h2 := rankR_iff hb ha
    rw [he, decide_eq_false (Nat.lt_irrefl _)] at h1
    rw [he, decide_eq_false (Nat.lt_irrefl _)] at h2
    exact hne (ltI_total h1.symm h2.symm)
  have hb : ∀ a ∈ rows.map (rankR rows), a < rows.length := fun a ha => by
    obtain ⟨r, hr, rfl⟩ := List.mem_map.mp ha
    exact rankR_bound hr
  have hc := chk_all rows.length rows.length [] (rows.map (rankR rows)) (chk_small _ h2 h6) (by simp) (by simpa using hσn) hb
  rw [List.nil_append] at hc
  have hlt : ∀ i j (hi : i < rows.length) (hj : j < rows.length), ltS (rows.map (rankR rows)) i j = ltI rows[i] rows[j] := fun i j hi hj => by
    unfold ltS
    rw [← rankR_iff (List.getElem_mem hi) (List.getElem_mem hj)]
    simp [List.getD_eq_getElem?_getD, hi, hj]
  simp only [chk1, Bool.and_eq_true, beq_iff_eq] at hc
  obtain ⟨hok, hp, hm⟩ := hc
  have hp := List.isPerm_iff.mp hp
  refine ⟨ltS (rows.map (rankR rows)), hlt, hok, hp, ?_⟩
  unfold SortedR
  rw [List.pairwise_map]
  have hpw : ((goT (ltS (rows.map (rankR rows))) (kas_sort rows.length)).toList.map fun i => (rows.map (rankR rows)).getD i 0).Pairwise (· < ·) := by rw [hm]; exact List.pairwise_lt_range
  rw [List.pairwise_map] at hpw
  refine List.Pairwise.imp_of_mem (fun {i j} hi hj h => ?_) hpw
  have hi' := List.mem_range.mp (hp.mem_iff.mp hi)
  have hj' := List.mem_range.mp (hp.mem_iff.mp hj)
  rw [List.getD_eq_getElem?_getD, List.getD_eq_getElem?_getD, List.getElem?_eq_getElem hi', List.getElem?_eq_getElem hj', Option.getD_some, Option.getD_some, ← hlt j i hj' hi']
  exact decide_eq_false (by omega)

section
variable {prog : Program} {w : World} {A : Around} {E : Value → Shared → Prop} {s : Shared} {base : Heap} {fr : List Fram} {γ : Gh} {mu : List (Addr × MP)} {l c : Addr} {vs : List Value} {rows : List (List Int)}
theorem opSorted {Q : Value → Shared → Prop} (S : St base fr γ mu s.heap) (x : HL γ mu l vs) (hr : GRs γ vs rows) (nd : rows.Nodup) (h6 : vs.length ≤ 6) (hu : A.units + 2 < cLine)
    (ret : ∀ c γ' vs' rows' h' tk', γ.Le γ' → GL γ' c vs'.toArray → GRs γ' vs' rows' → rows'.Perm rows → SortedR rows' → St base fr γ' mu h' → Q (.ref c) { s with heap := h', toks := tk' }) :
    wpAny (model prog w) A (call (.builtin "sorted") [.ref l]) Q E s := by
  have lr := hr.length
  refine Calls.call_function_entry kind_sorted plain_sorted entry_sorted (args_sorted1 _) ?_
  unfold Builtin.«sorted»
  refine wpAny_bind (m := checkCount "sorted" 1 1 _) (wpAny_pure ?_)
  refine wpAny_bind (collect_list (S.lis x) ?_ (by rw [sizeLine_eq]; omega))
  refine wpAny_bind (wpAny_newList ?_ (by rw [sizeLine_eq]; omega))
  have hsz : ((s.heap.push (seqObj "list" #[] 0)).update s.heap.objs.size (Obj.mapSeq (· ++ vs.toArray))).objs.size = s.heap.objs.size + 1 := by
    rw [Heap.size_update, size_push']
  have hoL : (((s.heap.push (seqObj "list" #[] 0)).update s.heap.objs.size (Obj.mapSeq (· ++ vs.toArray))).push (seqObj "list" vs.toArray 0)).get? (s.heap.objs.size + 1) = some (seqObj "list" vs.toArray 0) := by
    rw [← hsz]; exact Heap.get?_push_size _ rfl
  have keep : ∀ b o, s.heap.get? b = some o → (((s.heap.push (seqObj "list" #[] 0)).update s.heap.objs.size (Obj.mapSeq (· ++ vs.toArray))).push (seqObj "list" vs.toArray 0)).get? b = some o := fun b o q => by
    have hlt : b < s.heap.objs.size := Heap.lt_size q
    rw [Heap.get?_push_ne _ _ _ (by rw [hsz]; exact Nat.ne_of_lt (Nat.lt_succ_of_lt hlt)), Heap.get?_update_ne _ _ _ _ (Nat.ne_of_lt hlt), Heap.get?_push_ne _ _ _ (Nat.ne_of_lt hlt)]
    exact q
  have S1 : St base fr γ ((s.heap.objs.size + 1, Lst vs.toArray) :: mu) _ := S.new keep (Heap.get?_none_of_le (Nat.le_succ _)) hoL ⟨0, rfl⟩
  show wpAny _ _ _ _ _ { s with heap := ((s.heap.push (seqObj "list" #[] 0)).update s.heap.objs.size (Obj.mapSeq (· ++ vs.toArray))).push (seqObj "list" vs.toArray 0) }
  rw [hsz]
  refine wpAny_bind (wpAny_holding (wpAny_call_entry slot_list_sort ⟨_, hoL, rfl⟩ entry_list_sort ?body (args_list_sort _)))
  case body =>
    refine listSort (s := { s with heap := ((s.heap.push (seqObj "list" #[] 0)).update s.heap.objs.size (Obj.mapSeq (· ++ vs.toArray))).push (seqObj "list" vs.toArray 0) }) S1 hr (by omega) (fun h2 => sortOk nd h2 (by omega)) (by show A.units + 1 + 1 < _; omega) fun vs' rows' h' tk' hr' pm so S2 => ?_
    obtain ⟨γ', le, gl, S3⟩ := S2.freezeL
    exact ⟨_, rfl, wpAny_pure ⟨_, rfl, ret _ γ' vs' rows' h' tk' le gl (hr'.le le) pm so S3⟩⟩
end
end Mine

/-! part B13 -/
namespace Mine
section
variable {prog : Program} {w : World} {A : Around} {E : Value → Shared → Prop} {s : Shared} {base : Heap} {fr : List Fram} {γ : Gh} {mu : List (Addr × MP)}
  {p : Program} {loose : List Str} {mg mb : Str → Option Value}
/-- the sets of the numbers below k that a question lets through -/
def famL (f : Int → Bool) (k : Nat) : List (List Int) := ((List.range k).filter fun i : Nat => f (i : Int)).map fun i : Nat => memI (i : Int)
theorem famL_succ (f : Int → Bool) (k : Nat) : famL f (k + 1) = famL f k ++ (if f (k : Int) = true then [memI (k : Int)] else []) := by
  unfold famL
  rw [List.range_succ, List.filter_append, List.map_append, List.filter_cons]
  by_cases h : f (k : Int) = true <;> simp [h]
def PlainRow : Prop := ∀ (cs : List Int) (rows : List (List Int)), (∀ x ∈ cs, 0 ≤ x ∧ x < 16) → rows.Nodup → (∀ r, r ∈ rows ↔ r ∈ cs.map memI) → (famL (fun i => decide (i ∈ cs)) 16).Perm rows
def PlainLeft : Prop := ∀ (cs os : List Int) (rows rows2 : List (List Int)), (∀ x ∈ cs, 0 ≤ x ∧ x < 16) → rows.Nodup → (∀ r, r ∈ rows ↔ r ∈ cs.map memI) → os.Perm [0, 1, 2, 3] → PR rows os rows2 →
  (famL (fun i => tru cs (memI i) os.reverse 0) 16).Perm rows2 ∧ rows2.Nodup ∧ ∀ S ∈ rows2, ∀ tr : List (List Int), tr.Nodup → (∀ x, x ∈ tr ↔ x ∈ rows.map (shareR S)) → tr.length = 2 ^ S.length
theorem memI_ok (c : Int) : Rise (memI c) ∧ (memI c).length ≤ 4 := by
  constructor
  · unfold memI Rise
    rw [List.pairwise_map]
    refine List.Pairwise.imp (fun h => ?_) (List.Pairwise.filter _ (List.pairwise_lt_range (n := 4)))
    exact Int.ofNat_lt.mpr h
  · unfold memI
    rw [List.length_map]
    exact Nat.le_trans (List.length_filter_le _ _) (by simp)
end
end Mine

/-! part P5 -/
namespace Mine
def Cd (c : Int) : Prop := 0 ≤ c ∧ c < 16
def Th (t : Int) : Prop := 0 ≤ t ∧ t < 4
theorem Cd.fin {c : Int} (h : Cd c) : ∃ n : Fin 16, c = (n.val : Int) := ⟨⟨c.toNat, by unfold Cd at h; omega⟩, by unfold Cd at h; show c = ((c.toNat : Nat) : Int); omega⟩
theorem Th.fin {c : Int} (h : Th c) : ∃ n : Fin 4, c = (n.val : Int) := ⟨⟨c.toNat, by unfold Th at h; omega⟩, by unfold Th at h; show c = ((c.toNat : Nat) : Int); omega⟩
theorem f_inj : ∀ a b : Fin 16, memI (a.val : Int) = memI (b.val : Int) → a = b := by decide +kernel
theorem f_th : ∀ a : Fin 16, ∀ u ∈ memI (a.val : Int), 0 ≤ u ∧ u < 4 := by decide +kernel
theorem f_add : ∀ a : Fin 16, ∀ t : Fin 4, (t.val : Int) ∉ memI (a.val : Int) → (a.val : Int) + 2 ^ t.val < 16 ∧ ∀ u : Fin 4, (u.val : Int) ∈ memI ((a.val : Int) + 2 ^ t.val) ↔ u = t ∨ (u.val : Int) ∈ memI (a.val : Int) := by decide +kernel
theorem f_sub : ∀ a : Fin 16, ∀ t : Fin 4, (t.val : Int) ∈ memI (a.val : Int) → 0 ≤ (a.val : Int) - 2 ^ t.val ∧ cutT (t.val : Int) (memI (a.val : Int)) = memI ((a.val : Int) - 2 ^ t.val) := by decide +kernel
theorem f_cut : ∀ a : Fin 16, ∀ t : Fin 4, (t.val : Int) ∉ memI (a.val : Int) → cutT (t.val : Int) (memI (a.val : Int)) = memI (a.val : Int) := by decide +kernel
theorem f_zero : memI 0 = [] := by decide +kernel

theorem memI_inj {a b : Int} (ha : Cd a) (hb : Cd b) (h : memI a = memI b) : a = b := by
  obtain ⟨n, rfl⟩ := ha.fin
  obtain ⟨m, rfl⟩ := hb.fin
  rw [f_inj n m h]
theorem memI_th {a u : Int} (ha : Cd a) (hu : u ∈ memI a) : Th u := by
  obtain ⟨n, rfl⟩ := ha.fin
  exact f_th n u hu
theorem memI_add {a t : Int} (ha : Cd a) (ht : Th t) (h : t ∉ memI a) : Cd (a + 2 ^ t.toNat) ∧ ∀ u, u ∈ memI (a + 2 ^ t.toNat) ↔ u = t ∨ u ∈ memI a := by
  obtain ⟨n, rfl⟩ := ha.fin
  obtain ⟨m, rfl⟩ := ht.fin
  have := f_add n m h
  rw [Int.toNat_natCast]
  have hp : (0 : Int) ≤ 2 ^ m.val := Int.pow_nonneg (by decide)
  have hc : Cd ((n.val : Int) + 2 ^ m.val) := ⟨by omega, this.1⟩
  refine ⟨hc, fun u => ⟨fun hu => ?_, fun hu => ?_⟩⟩
  · obtain ⟨k, rfl⟩ := (memI_th hc hu).fin
    rcases (this.2 k).mp hu with e | e
    · exact .inl (by rw [e])
    · exact .inr e
  · have hk : Th u := by
      rcases hu with rfl | hu
      · exact ht
      · exact memI_th ha hu
    obtain ⟨k, rfl⟩ := hk.fin
    refine (this.2 k).mpr ?_
    rcases hu with e | e
    · exact .inl (Fin.ext (Int.ofNat.inj e))
    · exact .inr e
theorem memI_sub {a t : Int} (ha : Cd a) (ht : Th t) (h : t ∈ memI a) : Cd (a - 2 ^ t.toNat) ∧ cutT t (memI a) = memI (a - 2 ^ t.toNat) := by
  obtain ⟨n, rfl⟩ := ha.fin
  obtain ⟨m, rfl⟩ := ht.fin
  have := f_sub n m h
  rw [Int.toNat_natCast]
  have hp : (0 : Int) ≤ 2 ^ m.val := Int.pow_nonneg (by decide)
  have := ha.2
  exact ⟨⟨(f_sub n m h).1, by omega⟩, (f_sub n m h).2⟩
theorem memI_cut {a t : Int} (ha : Cd a) (ht : Th t) (h : t ∉ memI a) : cutT t (memI a) = memI a := by
  obtain ⟨n, rfl⟩ := ha.fin
  obtain ⟨m, rfl⟩ := ht.fin
  exact f_cut n m h
theorem not_cut {t : Int} {r : List Int} : t ∉ cutT t r := by simp [cutT]

theorem famL_mem {f : Int → Bool} {r : List Int} : r ∈ famL f 16 ↔ ∃ c, Cd c ∧ f c = true ∧ memI c = r := by
  unfold famL
  rw [List.mem_map]
  constructor
  · rintro ⟨i, hi, rfl⟩
    have := List.mem_filter.mp hi
    have h16 := List.mem_range.mp this.1
    exact ⟨(i : Int), ⟨by omega, by omega⟩, this.2, rfl⟩
  · rintro ⟨c, hc, hf, rfl⟩
    obtain ⟨n, rfl⟩ := hc.fin
    exact ⟨n.val, List.mem_filter.mpr ⟨List.mem_range.mpr n.isLt, hf⟩, rfl⟩
theorem famL_all : ((List.range 16).map fun i : Nat => memI (i : Int)).Nodup := by decide +kernel
theorem famL_nodup (f : Int → Bool) : (famL f 16).Nodup := List.Sublist.nodup (List.Sublist.map _ List.filter_sublist) famL_all

theorem plainRow : PlainRow := fun cs rows hc nd me => by
  refine (List.perm_ext_iff_of_nodup (famL_nodup _) nd).mpr fun r => ?_
  rw [famL_mem, me, List.mem_map]
  constructor
  · rintro ⟨c, _, hf, e⟩
    exact ⟨c, of_decide_eq_true hf, e⟩
  · rintro ⟨c, hm, e⟩
    exact ⟨c, hc c hm, decide_eq_true hm, e⟩

def AllCd (R : List (List Int)) : Prop := ∀ r ∈ R, ∃ c, Cd c ∧ memI c = r
theorem press_cd {R : List (List Int)} {t c : Int} (hc : Cd c) (ht : Th t) : ∃ c', Cd c' ∧ memI c' = pressR R t (memI c) := by
  unfold pressR
  split
  · exact ⟨c, hc, rfl⟩
  · by_cases h : t ∈ memI c
    · exact ⟨_, (memI_sub hc ht h).1, (memI_sub hc ht h).2.symm⟩
    · exact ⟨c, hc, (memI_cut hc ht h).symm⟩
theorem press_mem {R : List (List Int)} {t c : Int} (hR : AllCd R) (hc : Cd c) (ht : Th t) :
    memI c ∈ R.map (pressR R t) ↔ (t ∈ memI c ∧ memI c ∈ R ∧ memI (c - 2 ^ t.toNat) ∈ R) ∨ (t ∉ memI c ∧ (memI c ∈ R ∨ memI (c + 2 ^ t.toNat) ∈ R)) := by
  rw [List.mem_map]
  constructor
  · rintro ⟨r, hr, e⟩
    obtain ⟨c', hc', rfl⟩ := hR r hr
    unfold pressR at e
    by_cases h : t ∈ memI c
    · refine .inl ⟨h, ?_⟩
      split at e
      · rename_i hcut
        have := memI_inj hc' hc e
        subst this
        exact ⟨hr, (memI_sub hc ht h).2 ▸ hcut⟩
      · rw [← e] at h
        exact absurd h not_cut
    · refine .inr ⟨h, ?_⟩
      split at e
      · exact .inl (e ▸ hr)
      · by_cases h' : t ∈ memI c'
        · have k := memI_sub hc' ht h'
          rw [k.2] at e
          have := memI_inj k.1 hc e
          rw [← this, Int.sub_add_cancel]
          exact .inr hr
        · rw [memI_cut hc' ht h'] at e
          exact .inl (e ▸ hr)
  · rintro (⟨h, h1, h2⟩ | ⟨h, h1⟩)
    · refine ⟨_, h1, ?_⟩
      unfold pressR
      rw [if_pos ((memI_sub hc ht h).2 ▸ h2)]
    · by_cases h3 : memI c ∈ R
      · refine ⟨_, h3, ?_⟩
        unfold pressR
        rw [memI_cut hc ht h, if_pos h3]
      · have h2 := h1.resolve_left h3
        have k := memI_add hc ht h
        have e := memI_sub k.1 ht ((k.2 t).mpr (.inl rfl))
        rw [Int.add_sub_cancel] at e
        refine ⟨_, h2, ?_⟩
        unfold pressR
        rw [e.2, if_neg h3]
theorem press_nodup {R : List (List Int)} {t : Int} (hR : AllCd R) (ht : Th t) (nd : R.Nodup) : (R.map (pressR R t)).Nodup := by
  unfold List.Nodup at nd ⊢
  rw [List.pairwise_map]
  refine List.Pairwise.imp_of_mem (fun {a b} ha hb hne he => hne ?_) nd
  obtain ⟨c, hc, rfl⟩ := hR a ha
  obtain ⟨c', hc', rfl⟩ := hR b hb
  unfold pressR at he
  split at he <;> split at he
  · exact he
  · rename_i h1 h2
    rw [← he] at h2; exact absurd ha h2
  · rename_i h1 h2
    rw [he] at h1; exact absurd hb h1
  · rename_i h1 h2
    have k1 : t ∈ memI c := Classical.byContradiction fun h => h1 (by rw [memI_cut hc ht h]; exact ha)
    have k2 : t ∈ memI c' := Classical.byContradiction fun h => h2 (by rw [memI_cut hc' ht h]; exact hb)
    have e1 := memI_sub hc ht k1
    have e2 := memI_sub hc' ht k2
    rw [e1.2, e2.2] at he
    have := memI_inj e1.1 e2.1 he
    have : c = c' := by omega
    rw [this]

def partI (as : List Int) : List Int → Int
  | [] => 0
  | t :: r => partI as r + (if t ∈ as then 2 ^ t.toNat else 0)
theorem part_ok {as : List Int} : ∀ {r : List Int} {c : Int}, Cd c → (∀ t ∈ r, Th t) → r.Nodup → (∀ t ∈ r, t ∉ memI c) →
    Cd (c + partI as r) ∧ ∀ u, u ∈ memI (c + partI as r) ↔ u ∈ memI c ∨ (u ∈ r ∧ u ∈ as)
  | [], c, hc, _, _, _ => by
    rw [partI, Int.add_zero]
    exact ⟨hc, fun u => by simp⟩
  | t :: r, c, hc, ht, nd, hd => by
    have nd' := List.nodup_cons.mp nd
    have ih := part_ok (as := as) hc (fun u hu => ht u (.tail _ hu)) nd'.2 fun u hu => hd u (.tail _ hu)
    rw [partI]
    by_cases h : t ∈ as
    · rw [if_pos h, ← Int.add_assoc]
      have hn : t ∉ memI (c + partI as r) := fun q => by
        rcases (ih.2 t).mp q with q | q
        · exact hd t (.head _) q
        · exact nd'.1 q.1
      have k := memI_add ih.1 (ht t (.head _)) hn
      refine ⟨k.1, fun u => ?_⟩
      rw [k.2, ih.2, List.mem_cons]
      constructor
      · rintro (rfl | q | q)
        · exact .inr ⟨.inl rfl, h⟩
        · exact .inl q
        · exact .inr ⟨.inr q.1, q.2⟩
      · rintro (q | ⟨rfl | q, q'⟩)
        · exact .inr (.inl q)
        · exact .inl rfl
        · exact .inr (.inr ⟨q, q'⟩)
    · rw [if_neg h, Int.add_zero]
      refine ⟨ih.1, fun u => ?_⟩
      rw [ih.2, List.mem_cons]
      constructor
      · rintro (q | q)
        · exact .inl q
        · exact .inr ⟨.inr q.1, q.2⟩
      · rintro (q | ⟨rfl | q, q'⟩)
        · exact .inl q
        · exact absurd q' h
        · exact .inr ⟨q, q'⟩

theorem PR.all {rows R : List (List Int)} {os : List Int} (h : PR rows os R) (h0 : AllCd rows) (n0 : rows.Nodup) (ht : ∀ t ∈ os, Th t) : AllCd R ∧ R.Nodup := by
  induction h with
  | nil => exact ⟨h0, n0⟩
  | @snoc os r1 r2 t pr so pm ih =>
    obtain ⟨i1, i2⟩ := ih fun u hu => ht u (List.mem_append_left _ hu)
    have tt := ht t (List.mem_append_right _ (.head _))
    refine ⟨fun r hr => ?_, pm.nodup_iff.mpr (press_nodup i1 tt i2)⟩
    obtain ⟨r', hr', e⟩ := List.mem_map.mp (pm.mem_iff.mp hr)
    obtain ⟨c, hc, rfl⟩ := i1 r' hr'
    exact e ▸ press_cd hc tt

theorem tru_mem {cs : List Int} {rows R : List (List Int)} {os : List Int} (hcs : ∀ c ∈ cs, Cd c) (me : ∀ r, r ∈ rows ↔ r ∈ cs.map memI) (n0 : rows.Nodup) (as : List Int) (h : PR rows os R) (ht : ∀ t ∈ os, Th t) (nd : os.Nodup) :
    ∀ c, Cd c → (∀ t ∈ os, t ∉ memI c) → tru cs as os.reverse c = decide (memI (c + partI as os.reverse) ∈ R) := by
  have h0 : AllCd rows := fun r hr => by
    obtain ⟨c, hc, e⟩ := List.mem_map.mp ((me r).mp hr)
    exact ⟨c, hcs c hc, e⟩
  induction h with
  | nil =>
    intro c hc _
    show decide (c ∈ cs) = decide (memI (c + 0) ∈ rows)
    rw [Int.add_zero]
    refine decide_eq_decide.mpr ?_
    rw [me, List.mem_map]
    exact ⟨fun q => ⟨c, q, rfl⟩, fun ⟨c', q, e⟩ => memI_inj (hcs c' q) hc e ▸ q⟩
  | @snoc os r1 r2 t pr so pm ih =>
    intro c hc hd
    have ht' : ∀ u ∈ os, Th u := fun u hu => ht u (List.mem_append_left _ hu)
    have tt := ht t (List.mem_append_right _ (.head _))
    have nd1 := List.nodup_append.mp nd
    have tn : t ∉ os := fun q => nd1.2.2 t q t (.head _) rfl
    have hd' : ∀ u ∈ os, u ∉ memI c := fun u hu => hd u (List.mem_append_left _ hu)
    have tc : t ∉ memI c := hd t (List.mem_append_right _ (.head _))
    have k := memI_add hc tt tc
    have hdt : ∀ u ∈ os, u ∉ memI (c + 2 ^ t.toNat) := fun u hu q => by
      rcases (k.2 u).mp q with rfl | q
      · exact tn hu
      · exact hd' u hu q
    have i1 := ih ht' nd1.1 c hc hd'
    have i2 := ih ht' nd1.1 _ k.1 hdt
    obtain ⟨a1, _⟩ := pr.all h0 n0 ht'
    have po := part_ok (as := as) (r := os.reverse) hc (fun u hu => ht' u (List.mem_reverse.mp hu)) ((List.reverse_perm os).nodup_iff.mpr nd1.1) fun u hu => hd' u (List.mem_reverse.mp hu)
    have txp : t ∉ memI (c + partI as os.reverse) := fun q => by
      rcases (po.2 t).mp q with q | q
      · exact tc q
      · exact tn (List.mem_reverse.mp q.1)
    have kx := memI_add po.1 tt txp
    have er : (os ++ [t]).reverse = t :: os.reverse := by simp
    have e12 : c + 2 ^ t.toNat + partI as os.reverse = c + partI as os.reverse + 2 ^ t.toNat := by omega
    rw [er]
    show (if tru cs as os.reverse c = decide (t ∈ as) then tru cs as os.reverse (c + 2 ^ t.toNat) else tru cs as os.reverse c) = decide (memI (c + (partI as os.reverse + (if t ∈ as then 2 ^ t.toNat else 0))) ∈ r2)
    rw [i1, i2, e12]
    by_cases ha : t ∈ as
    · rw [if_pos ha, decide_eq_true ha, ← Int.add_assoc]
      have m := press_mem a1 kx.1 tt
      rw [← pm.mem_iff, Int.add_sub_cancel] at m
      have tin : t ∈ memI (c + partI as os.reverse + 2 ^ t.toNat) := (kx.2 t).mpr (.inl rfl)
      by_cases q1 : memI (c + partI as os.reverse) ∈ r1
      · rw [decide_eq_true q1, if_pos rfl]
        exact decide_eq_decide.mpr ⟨fun q => m.mpr (.inl ⟨tin, q, q1⟩), fun q => by
          rcases m.mp q with q | q
          · exact q.2.1
          · exact absurd tin q.1⟩
      · rw [decide_eq_false q1, if_neg (by decide)]
        exact (decide_eq_false fun q => by
          rcases m.mp q with q | q
          · exact q1 q.2.2
          · exact q.1 tin).symm
    · rw [if_neg ha, decide_eq_false ha, Int.add_zero]
      have m := press_mem a1 po.1 tt
      rw [← pm.mem_iff] at m
      by_cases q1 : memI (c + partI as os.reverse) ∈ r1
      · rw [decide_eq_true q1, if_neg (by decide)]
        exact (decide_eq_true (m.mpr (.inr ⟨txp, .inl q1⟩))).symm
      · rw [decide_eq_false q1, if_pos rfl]
        exact decide_eq_decide.mpr ⟨fun q => m.mpr (.inr ⟨txp, .inr q⟩), fun q => by
          rcases m.mp q with q | q
          · exact absurd q.1 txp
          · exact q.2.resolve_left q1⟩

/-- a true question: all parts of the asked things are met -/
theorem tru_parts {cs as : List Int} : ∀ {r : List Int} {c : Int}, Cd c → (∀ t ∈ r, Th t) → r.Nodup → (∀ t ∈ r, t ∉ memI c) → tru cs as r c = true →
    ∀ Y : List Int, ∃ C ∈ cs, ∀ u ∈ as, u ∈ memI C ↔ (u ∈ r ∧ u ∈ Y) ∨ (u ∉ r ∧ u ∈ memI c)
  | [], c, _, _, _, _, h, Y => ⟨c, of_decide_eq_true h, fun u _ => by simp⟩
  | t :: r, c, hc, ht, nd, hd, h, Y => by
    have nd' := List.nodup_cons.mp nd
    have tt := ht t (.head _)
    have k := memI_add hc tt (hd t (.head _))
    have h1 : tru cs as r c = true → ∀ Y : List Int, ∃ C ∈ cs, ∀ u ∈ as, u ∈ memI C ↔ (u ∈ r ∧ u ∈ Y) ∨ (u ∉ r ∧ u ∈ memI c) :=
      tru_parts hc (fun u hu => ht u (.tail _ hu)) nd'.2 fun u hu => hd u (.tail _ hu)
    have h2 : tru cs as r (c + 2 ^ t.toNat) = true → ∀ Y : List Int, ∃ C ∈ cs, ∀ u ∈ as, u ∈ memI C ↔ (u ∈ r ∧ u ∈ Y) ∨ (u ∉ r ∧ u ∈ memI (c + 2 ^ t.toNat)) :=
      tru_parts k.1 (fun u hu => ht u (.tail _ hu)) nd'.2 fun u hu q => by
        rcases (k.2 u).mp q with rfl | q
        · exact nd'.1 hu
        · exact hd u (.tail _ hu) q
    have tc := hd t (.head _)
    have fin1 : (t ∉ Y ∨ t ∉ as) → tru cs as r c = true → ∃ C ∈ cs, ∀ u ∈ as, u ∈ memI C ↔ (u ∈ t :: r ∧ u ∈ Y) ∨ (u ∉ t :: r ∧ u ∈ memI c) := fun hy hq => by
      obtain ⟨C, hC, hu⟩ := h1 hq Y
      refine ⟨C, hC, fun u ha => ?_⟩
      rw [hu u ha, List.mem_cons]
      by_cases e : u = t
      · subst e
        have hy' := hy.resolve_right fun q => q ha
        simp [nd'.1, tc, hy']
      · simp [e]
    have fin2 : (t ∈ Y ∨ t ∉ as) → tru cs as r (c + 2 ^ t.toNat) = true → ∃ C ∈ cs, ∀ u ∈ as, u ∈ memI C ↔ (u ∈ t :: r ∧ u ∈ Y) ∨ (u ∉ t :: r ∧ u ∈ memI c) := fun hy hq => by
      obtain ⟨C, hC, hu⟩ := h2 hq Y
      refine ⟨C, hC, fun u ha => ?_⟩
      rw [hu u ha, List.mem_cons, k.2]
      by_cases e : u = t
      · subst e
        have hy' := hy.resolve_right fun q => q ha
        simp [nd'.1, hy']
      · simp [e]
    have h : (if tru cs as r c = decide (t ∈ as) then tru cs as r (c + 2 ^ t.toNat) else tru cs as r c) = true := h
    by_cases ha : t ∈ as
    · rw [decide_eq_true ha] at h
      by_cases q : tru cs as r c = true
      · rw [if_pos q] at h
        by_cases hy : t ∈ Y
        · exact fin2 (.inl hy) h
        · exact fin1 (.inl hy) q
      · rw [if_neg q] at h
        exact absurd h q
    · rw [decide_eq_false ha] at h
      by_cases q : tru cs as r c = false
      · rw [if_pos q] at h
        exact fin2 (.inr ha) h
      · rw [if_neg q] at h
        exact fin1 (.inr ha) h

def subsL : List Int → List (List Int)
  | [] => [[]]
  | a :: r => (subsL r).map (a :: ·) ++ subsL r
theorem subs_len : ∀ S : List Int, (subsL S).length = 2 ^ S.length
  | [] => rfl
  | a :: r => by
    rw [subsL, List.length_append, List.length_map, subs_len r, List.length_cons, Nat.pow_succ]; omega
theorem subs_sub : ∀ {S x : List Int}, x ∈ subsL S → ∀ u ∈ x, u ∈ S
  | [], x, h, u, hu => by
    simp [subsL] at h; subst h; exact hu
  | a :: r, x, h, u, hu => by
    rw [subsL, List.mem_append, List.mem_map] at h
    rcases h with ⟨y, hy, rfl⟩ | h
    · rcases List.mem_cons.mp hu with rfl | hu
      · exact .head _
      · exact .tail _ (subs_sub hy u hu)
    · exact .tail _ (subs_sub h u hu)
theorem subs_nodup : ∀ {S : List Int}, S.Nodup → (subsL S).Nodup
  | [], _ => by simp [subsL]
  | a :: r, nd => by
    have nd' := List.nodup_cons.mp nd
    rw [subsL, List.nodup_append]
    have ih := subs_nodup nd'.2
    refine ⟨?_, ih, fun x hx y hy e => ?_⟩
    · unfold List.Nodup at ih ⊢
      rw [List.pairwise_map]
      exact ih.imp fun h e => h (List.cons.inj e).2
    · subst e
      obtain ⟨z, _, rfl⟩ := List.mem_map.mp hx
      exact nd'.1 (subs_sub hy a (.head _))
theorem subs_filter (p : Int → Bool) : ∀ S : List Int, S.filter p ∈ subsL S
  | [] => by simp [subsL]
  | a :: r => by
    rw [subsL, List.filter_cons]
    split
    · exact List.mem_append_left _ (List.mem_map_of_mem (subs_filter p r))
    · exact List.mem_append_right _ (subs_filter p r)
theorem subs_eq : ∀ {S x : List Int}, S.Nodup → x ∈ subsL S → S.filter (fun u => decide (u ∈ x)) = x
  | [], x, _, h => by simp [subsL] at h; subst h; rfl
  | a :: r, x, nd, h => by
    have nd' := List.nodup_cons.mp nd
    rw [subsL, List.mem_append, List.mem_map] at h
    rcases h with ⟨y, hy, rfl⟩ | h
    · rw [List.filter_cons, if_pos (by simp)]
      congr 1
      have := subs_eq nd'.2 hy
      refine Eq.trans (List.filter_congr fun u hu => ?_) this
      have : u ≠ a := fun e => nd'.1 (e ▸ hu)
      simp [this]
    · rw [List.filter_cons, if_neg (by simpa using fun q => nd'.1 (subs_sub h a q))]
      exact subs_eq nd'.2 h

theorem plainLeft : PlainLeft := fun cs os rows rows2 hc nd me po pr => by
  have ht : ∀ t ∈ os, Th t := fun t h => by
    have := po.mem_iff.mp h
    simp at this; unfold Th; omega
  have on : os.Nodup := po.nodup_iff.mpr (by decide)
  have h0 : AllCd rows := fun r hr => by
    obtain ⟨c, hm, e⟩ := List.mem_map.mp ((me r).mp hr)
    exact ⟨c, hc c hm, e⟩
  obtain ⟨a2, n2⟩ := pr.all h0 nd ht
  have z : Cd 0 := ⟨by decide, by decide⟩
  have dz : ∀ t ∈ os, t ∉ memI 0 := fun t _ => by rw [f_zero]; simp
  have key : ∀ c, Cd c → tru cs (memI c) os.reverse 0 = decide (memI c ∈ rows2) := fun c hcd => by
    rw [tru_mem hc me nd (memI c) pr ht on 0 z dz]
    have p := part_ok (as := memI c) (r := os.reverse) z (fun u hu => ht u (List.mem_reverse.mp hu)) ((List.reverse_perm os).nodup_iff.mpr on) fun u hu => dz u (List.mem_reverse.mp hu)
    have e : memI (0 + partI (memI c) os.reverse) = memI c := rise_eq (memI_ok _).1 (memI_ok _).1 fun u => by
      rw [p.2, f_zero, List.mem_reverse]
      constructor
      · rintro (q | q)
        · cases q
        · exact q.2
      · intro q
        have hu := memI_th hcd q
        refine .inr ⟨po.mem_iff.mpr ?_, q⟩
        unfold Th at hu
        have : u = 0 ∨ u = 1 ∨ u = 2 ∨ u = 3 := by omega
        simpa using this
    rw [e]
  refine ⟨(List.perm_ext_iff_of_nodup (famL_nodup _) n2).mpr fun r => ?_, n2, fun S hS tr ntr htr => ?_⟩
  · rw [famL_mem]
    constructor
    · rintro ⟨c, hcd, hf, rfl⟩
      rw [key c hcd] at hf
      exact of_decide_eq_true hf
    · intro hr
      obtain ⟨c, hcd, rfl⟩ := a2 r hr
      exact ⟨c, hcd, by rw [key c hcd]; exact decide_eq_true hr, rfl⟩
  · obtain ⟨c, hcd, rfl⟩ := a2 S hS
    have tt : tru cs (memI c) os.reverse 0 = true := by rw [key c hcd]; exact decide_eq_true hS
    have parts := tru_parts z (fun u hu => ht u (List.mem_reverse.mp hu)) ((List.reverse_perm os).nodup_iff.mpr on) (fun u hu => dz u (List.mem_reverse.mp hu)) tt
    have sn : (memI c).Nodup := (memI_ok c).1.imp fun h e => by omega
    rw [← subs_len]
    refine ((List.perm_ext_iff_of_nodup ntr (subs_nodup sn)).mpr fun x => ?_).length_eq
    rw [htr, List.mem_map]
    constructor
    · rintro ⟨r, _, rfl⟩
      exact subs_filter _ _
    · intro hx
      obtain ⟨C, hC, hu⟩ := parts x
      refine ⟨memI C, (me _).mpr (List.mem_map_of_mem hC), ?_⟩
      refine Eq.trans (List.filter_congr fun u ha => ?_) (subs_eq sn hx)
      refine decide_eq_decide.mpr ?_
      rw [hu u ha, List.mem_reverse, f_zero]
      have hth := memI_th hcd ha
      have : u ∈ os := po.mem_iff.mpr (by
        unfold Th at hth
        have : u = 0 ∨ u = 1 ∨ u = 2 ∨ u = 3 := by omega
        simpa using this)
      simp [this]
end Mine

/-! part Fin -/
namespace Mine
theorem glue {base h : Heap} {L : Addr} {env : Env} {m : Str → Option Value} {o1 o2 : Obj} {v1 v2 : Option Value} (F : Fr base L h m) (N : News base L h [(L + 1 + 1, o1), (L + 1, o2)]) (d1 : o1.data = .cell v1) (d2 : o2.data = .cell v2)
    (hl : env.locals = L) (hf : env.frame = some L) (hk : env.scope.kind = .function) (hn : base.get? L = none) : St base [(env, m)] base.get? [(L + 2, Cel v1), (L + 1, Cel v2)] h := by
  have n1 := N _ (.head _)
  have n2 := N _ (.tail _ (.head _))
  refine ⟨fun _ _ e => e, fun a o e => F.keep a o e, fun p hp => ?_, fun p hp => ?_, ?_⟩
  · obtain rfl := List.mem_singleton.mp hp
    exact ⟨⟨hk, by rw [hl]; exact hf⟩, by rw [hl]; exact F.ns, by rw [hl]; exact hn⟩
  · rcases List.mem_cons.mp hp with rfl | hp
    · exact ⟨⟨o1, n1.1, d1⟩, n1.2.2⟩
    · obtain rfl := List.mem_singleton.mp hp
      exact ⟨⟨o2, n2.1, d2⟩, n2.2.2⟩
  · show [env.locals, L + 2, L + 1].Nodup
    rw [hl]
    have a1 : L ≠ L + 2 := Nat.ne_of_lt (Nat.lt_add_of_pos_right (by decide))
    have a2 : L ≠ L + 1 := Nat.ne_of_lt (Nat.lt_succ_self _)
    have a3 : L + 2 ≠ L + 1 := Nat.ne_of_gt (Nat.lt_succ_self _)
    simp [a1, a2]
theorem glueW {prog : Program} {w : World} {base : Heap} {L : Addr} {env : Env} {m : Str → Option Value} {o1 o2 : Obj} {v1 v2 : Option Value} {body : List Stmt} {Q : Flow → Shared → Prop} {E : Value → Shared → Prop} {s : Shared}
    (F : Fr base L s.heap m) (N : News base L s.heap [(L + 1 + 1, o1), (L + 1, o2)]) (d1 : o1.data = .cell v1) (d2 : o2.data = .cell v2) (hn : base.get? L = none)
    (k : St base [(env, m)] base.get? [(L + 2, Cel v1), (L + 1, Cel v2)] s.heap → Ax (callerA.deeper env) [(env, m)] (0 + 19) (0 + 197) → wpAny (model prog w) (callerA.deeper env) (execs body env) Q E s)
    (hl : env.locals = L) (hf : env.frame = some L) (hk : env.scope.kind = .function) : wpAny (model prog w) (callerA.deeper env) (execs body env) Q E s :=
  k (glue F N d1 d2 hl hf hk hn) ⟨rfl, by show 1 + claimMargin + 1 + (0 + 19) < recursionLimit; decide +kernel, by show 4 + 3 + (0 + 197) < cLine; decide +kernel, rfl⟩
theorem sz64 {vs : List Value} {xs : List Int} (hs : IntsAre vs xs) (h : ¬ (63 : Int) < (xs.length : Int)) : vs.length ≤ 64 := by
  have := hs.length
  omega
end Mine
theorem Mine.goodEnd {c : ClaimW} {cl : Str → Option Addr} {mean : ExcName → Option Value} {args : List WData} {s₁ : Shared} {h' : Heap} {tk' : Nat} (hg : s₁.gens = #[]) (hk : ∀ b o, s₁.heap.get? b = some o → h'.get? b = some o) (hr : ∀ cls, c.raises args cls = false) (hp : c.post args (.bool true) args = true) :
    GoodW c cl mean args s₁ (.ok (.ret (.bool true))) { heap := h', gens := s₁.gens, drawn := s₁.drawn, toks := tk', os := s₁.os } :=
  ⟨.inl ⟨_, _, [], rfl, hr, ReadsW.bool true, hp, fun _ => ⟨List.nodup_nil, fun _ hm => (nomatch hm)⟩⟩, hk, rfl, hg⟩
theorem Mine.glueEnd {c : ClaimW} {cl : Str → Option Addr} {mean : ExcName → Option Value} {args : List WData} {s₁ : Shared} {M : Model} {A : Around} {env : Env} {body : List Stmt} {h : Heap} {tk : Nat} (hg : s₁.gens = #[]) (hr : ∀ cls, c.raises args cls = false) (hp : c.post args (.bool true) args = true)
    (k : wpAny M A (execs body env) (fun f s' => ∃ γ' h' tk', f = .ret (.bool true) ∧ s' = { heap := h', gens := s₁.gens, drawn := s₁.drawn, toks := tk', os := s₁.os } ∧ St s₁.heap [] γ' [] h') (fun _ _ => False) { heap := h, gens := s₁.gens, drawn := s₁.drawn, toks := tk, os := s₁.os }) :
    wpAny M A (execs body env) (fun f s' => GoodW c cl mean args s₁ (.ok (.ret (match f with | .ret v => v | _ => Value.none))) s') (fun _ _ => False) { heap := h, gens := s₁.gens, drawn := s₁.drawn, toks := tk, os := s₁.os } :=
  wpAny_mono k (fun f s' ⟨γ', h', tk', e1, e2, S⟩ => by subst e1 e2; exact goodEnd hg S.stays hr hp) fun _ _ e => e
set_option maxHeartbeats 8000000 in
theorem Mine.fin : PySem.Challenge.rw_tv0031_01.Holds := Mine.hd (by
  k_go0
  rename Fr _ _ _ _ => F
  rename News _ _ _ _ => N
  refine glueW F N (by assumption) (by assumption) (Heap.get?_none_of_le (Nat.le_refl _)) ?_ rfl rfl rfl
  intro S1 AX'
  refine wpAny_noRaise ?_
  rename (Heap.IsList _ _ _) => hLs
  rename (IntsAre _ _) => hs
  rename (Frag.In _ _) => X
  rename (Top _ _ _ _ _ _) => TT
  have T := topRead_of TT
  generalize Array.size (Heap.objs _) = L at S1 AX' ⊢
  dsimp only at S1 AX' ⊢
  have ha : GW _ _ _ := hLs
  refine glueEnd (by assumption) ?e1 ?e2 ?_
  case e1 => exact raisesW_false (by wrow_none_raised)
  case e2 => kc_post
  have hsz := sz64 hs (by first | assumption | (intro h; rename (¬ _ < _) => hN; exact hN h))
  clear hLs
  rename Ground _ _ _ _ _ _ _ _ _ => G; clear G
  try (rename Below _ _ _ _ => z; clear z)
  try (rename Ground _ _ _ _ _ => z; clear z)
  try (rename XHook.says _ _ _ => z; clear z)
  try (rename Flt.MathXP _ _ _ => z; clear z)
  try (rename LooseAre _ _ _ => z; clear z)
  try (rename Glob _ _ _ _ _ _ _ _ => z; clear z)
  try (rename Tables _ _ _ _ => z; clear z)
  try (rename TopE _ _ _ _ => z; clear z)
  try (rename TopW _ _ _ => z; clear z)
  try (rename BMod _ _ _ _ _ => z; clear z)
  try (rename Heap.CodeRec _ _ _ => z; clear z)
  try (rename Dflts _ _ _ _ _ _ => z; clear z)
  try (rename Fr _ _ _ _ => z; clear z)
  try (rename News _ _ _ _ => z; clear z)
  try (rename Top _ _ _ _ _ _ => z; clear z)
  try (rename ReadsAll _ _ _ _ => z; clear z)
  try (rename Well _ _ _ _ => z; clear z)
  try (rename Reads _ _ _ _ => z; clear z)
  try (rename ReadsAllW _ _ _ _ _ _ => z; clear z)
  try (rename Not (_ < _) => z; clear z)
  try (rename Array.size _ = _ => z; clear z)
  try (rename _ = Data.cell _ => z; clear z)
  try (rename _ = Data.cell _ => z; clear z)
  try (rename _ = #[] => z; clear z)
  try (rename _ = some _ => z; clear z)
  try (rename _ = true => z; clear z)
  try (rename _ = true => z; clear z)
  try (rename _ = true => z; clear z)
  try (rename _ = true => z; clear z)
  try (rename _ = true => z; clear z)
  try (rename True => z; clear z)
  try (rename _ = true => z; clear z)
  generalize callerA = A at AX' ⊢
  have PL1 := plainRow
  have PL2 := plainLeft
  change St _ [(_, bindL _ [("script", .ref _)] fun _ => none)] _ [(L + 2, Cel none), (L + 1, Cel none)] _ at S1
  walk_at "m walk"
  rename St _ _ _ _ _ => S2
  refine newListF S2 ?_
  intro f γ1 h2 tk2 le1 gf S3
  clear S2
  walk_at "m walk"
  rename St _ _ _ _ _ => S4
  refine added (d := 0) (u := 0) S4 (AX'.top.le (by omega) (by omega)) X T (ha.le le1) hs hsz gf (.cons _ _ (.cons _ _ (.cons _ _ (.cons _ _ (.cons _ _ (.cons _ _ (.cons _ _ .nil))))))) rfl ?_
  intro c xs γ2 h3 tk3 le2 gc lc S5
  clear S4
  obtain ⟨cvs, gc, ic⟩ := gc
  have lcv : cvs.length = 7 := by rw [ic.length]; exact lc
  walk_at "m walk"
  refine compE (cl := []) (by with_unfolding_all rfl) rfl (by decide) ?_
  walk_at "m walk"
  rename St _ _ _ _ _ => S6
  refine ⟨_, cvs, _, _, _, _, _, _, rfl, S6, HL.fro gc, by rw [sizeLine_eq]; omega, .none, isPart_int _ _, ?_⟩
  intro b γ3 h4 tk4 le3 g3 S7
  clear S6
  have g3 : GL γ3 b (cvs.take 6).toArray := by
    have e := slicePick_upto' cvs.toArray 6
    rw [show ((6 : Nat) : Int) = 6 from rfl] at e
    rw [e] at g3
    exact g3
  have i6 := ic.take 6
  have l6 : (cvs.take 6).length = 6 := by rw [List.length_take]; omega
  refine iterList S7 AX'.hd g3 ?_
  intro it h5 tk5 G S8
  clear S7
  refine compG G S8 (by decide) rfl rfl (by rw [sizeLine_eq]; omega) (fun k _ mu' acc => mu' = (L + 2, Cel none) :: (L + 1, Cel none) :: [] ∧ IntsAre acc (((xs.take 6).take k).map fun x => x.fmod 16)) ⟨rfl, .nil⟩ ?_ ?_
  · rintro k v C D mc γ' mu' acc h' tk' E' hk hacc le ⟨rfl, hI⟩ hv hm S9
    clear S8
    obtain ⟨hk2, t, ev⟩ := ints_get i6 k hk
    have ev : v = .int (xs.take 6)[k] t := by rw [List.getElem?_eq_getElem hk, ev] at hv; exact (Option.some.inj hv).symm
    subst ev
    walk_at "m walk"
    rename St _ _ _ _ _ => S10
    refine ⟨γ', _, _, _, _, rfl, Gh.Le.rfl, hm, S10, ?_⟩
    rw [if_pos rfl]
    walk_at "m walk"
    rename St _ _ _ _ _ => S11
    refine ⟨γ', _, _, _, _, rfl, Gh.Le.rfl, S11, rfl, ?_⟩
    rw [List.take_succ_eq_append_getElem hk2, List.map_append]
    exact IntsAre.append hI (.cons _ _ .nil)
  rintro C D mc γ4 mu' acc h' tk' hacc le4 ⟨rfl, hI⟩ S9
  clear S8
  refine compFin S9 ?_
  intro h6 tk6 S10
  obtain ⟨γ5, le5, gD, S11⟩ := S10.freezeL
  clear S9 S10
  rw [List.take_of_length_le (show (xs.take 6).length ≤ (cvs.take 6).length by rw [i6.length]; exact Nat.le_refl _)] at hI
  generalize hcs : (xs.take 6).map (fun x => x.fmod 16) = cs at hI
  have hc16 : ∀ x ∈ cs, 0 ≤ x ∧ x < 16 := fun x hx => by
    rw [← hcs] at hx
    obtain ⟨y, _, rfl⟩ := List.mem_map.mp hx
    exact ⟨Int.fmod_nonneg_of_pos _ (by decide), Int.fmod_lt_of_pos _ (by decide)⟩
  have lcs : cs.length = 6 := by rw [← hcs, List.length_map, ← i6.length, l6]
  have lac := hI.length
  walk_at "m walk"
  rename St _ _ _ _ _ => S12
  have gc5 := ((gc.le le3).le le4).le le5
  obtain ⟨_, t7, e7⟩ := ints_get ic 6 (by omega)
  refine opSub S12 (v := .int xs[6] t7) (HL.fro gc5) (by decide) (by decide) (by rw [show (6 : Int).toNat = 6 from rfl, List.getElem?_eq_getElem (by omega), e7]) ?_
  walk_at "m walk"
  rename St _ _ _ _ _ => S13
  refine orderC (d := 0) (u := 0) S13 (AX'.top.le (by omega) (by omega)) X T ?_
  intro o os γ6 h7 tk7 le6 go po S14
  clear S13
  obtain ⟨ovs, go, io⟩ := go
  have lo : ovs.length = 4 := by rw [io.length, po.length_eq]; rfl
  walk_at "m walk"
  rename St _ _ _ _ _ => S15
  refine family (d := 0) (u := 0) S15 (AX'.top.le (by omega) (by omega)) X T (gD.le le6) hI (by omega) ?_
  intro rw_ vs rows γ7 h8 tk8 le7 gr hr so nd me lv S16
  clear S15
  walk_at "m walk"
  refine compE (cl := [("codes", L + 1)]) (by with_unfolding_all rfl) rfl (by decide) ?_
  walk_at "m walk"
  rename St _ _ _ _ _ => S17
  rename RG _ _ _ => rg
  rename (Gh.Le γ7 _) => le8
  refine iterRange (n := 16) S17 AX'.hd rg (by rw [sizeLine_eq]; omega) ?_
  intro it3 h9 tk9 G3 S18
  clear S17
  have gD7 := ((gD.le le6).le le7).le le8
  refine compG G3 S18 (by decide) rfl rfl (by rw [sizeLine_eq]; omega) (fun k γ' mu' acc => mu' = (L + 2, Cel (some (.ref o))) :: (L + 1, Cel (some (.ref D))) :: [] ∧ GRs γ' acc (famL (fun i => decide (i ∈ cs)) k)) ⟨rfl, .nil⟩ ?_ ?_
  · rintro k v C2 D2 mc γ' mu' acc2 h' tk' E' hk hacc2 le ⟨rfl, hR⟩ ⟨tt, rfl⟩ hm S19
    clear S18
    have gD8 := gD7.le le
    have es : famL (fun i => decide (i ∈ cs)) (k + 1) = (famL (fun i => decide (i ∈ cs)) k) ++ (if (k : Int) ∈ cs then [memI k] else []) := by
      rw [famL_succ]
      by_cases h : (k : Int) ∈ cs <;> simp [h]
    walk_at "m walk"
    rename St _ _ _ _ _ => S20
    refine ⟨γ', _, _, _, _, rfl, Gh.Le.rfl, hm, S20, ?_⟩
    rw [anyMem2]
    by_cases hq : (k : Int) ∈ cs
    · rw [if_pos (by simp [hq])]
      rw [if_pos hq] at es
      walk_at "m walk"
      rename St _ _ _ _ _ => S21
      refine members (d := 0) (u := 0) S21 (AX'.top.le (by omega) (by omega)) X T ?_
      intro b2 γ'' h10 tk10 le10 gb S22
      exact ⟨γ'', _, _, _, _, rfl, le10, S22, rfl, by rw [es]; exact (hR.le le10).append (.cons gb .nil)⟩
    · rw [if_neg (by simp [hq])]
      rw [if_neg hq, List.append_nil] at es
      exact ⟨rfl, by rw [es]; exact hR⟩
  rintro C2 D2 mc2 γ8 mu' acc2 h' tk' hacc2 le9 ⟨rfl, hR⟩ S19
  clear S18
  refine compFin S19 ?_
  intro h10 tk10 S20
  obtain ⟨γ9, le10, gD2, S21⟩ := S20.freezeL
  clear S19 S20
  walk_at "m walk"
  rename St _ _ _ _ _ => S22
  have p1 := PL1 cs rows hc16 nd me
  have lR := hR.length
  have lr := hr.length
  have lp1 := p1.length_eq
  refine opSorted S22 (HL.fro gD2) (hR.le le10) (p1.nodup_iff.mpr nd) (by omega) (by have := AX'.un; omega) ?_
  intro c3 γ10 vs3 rows3 h11 tk11 le11 gc3 hr3 pm3 so3 S23
  clear S22
  obtain rfl : rows3 = rows := sorted_uniq (pm3.trans p1) so3 so
  have le8b := ((le8.trans le9).trans le10).trans le11
  refine opNeSame S23 (((hr.rd gr).le le8b)) (hr3.rd gc3) (shaped_dR _) (eqv_dR _) (by have := AX'.un; omega) ?_
  walk_at "m walk"
  rename St _ _ _ _ _ => S24
  have ri : ∀ r ∈ rows3, Rise r ∧ r.length ≤ 4 := fun r hr => by
    obtain ⟨c, _, rfl⟩ := List.mem_map.mp ((me r).mp hr)
    exact memI_ok c
  refine Mine.left (d := 0) (u := 0) S24 (AX'.top.le (by omega) (by omega)) X T (gr.le le8b) (hr.le le8b) so (by omega) (fun r hr => ⟨(ri r hr).1, Nat.le_trans (ri r hr).2 (by decide)⟩) ((go.le le7).le le8b) io (by omega) ?_
  intro lf vs4 rows4 γ11 h12 tk12 le12 glf hr4 so4 pr lv4 ri4 S25
  clear S24
  obtain ⟨p2, nd2, sh⟩ := PL2 cs os rows3 rows4 hc16 nd me po pr
  walk_at "m walk"
  refine compA (cl := [("order", L + 2), ("codes", L + 1)]) (by with_unfolding_all rfl) (by with_unfolding_all rfl) rfl (by decide) ?_
  walk_at "m walk"
  rename St _ _ _ _ _ => S26
  rename RG _ _ _ => rg2
  rename (Gh.Le γ11 _) => le13
  refine iterRange (n := 16) S26 AX'.hd rg2 (by rw [sizeLine_eq]; omega) ?_
  intro it4 h13 tk13 G4 S27
  clear S26
  have le7z := ((le8b.trans le12).trans le13)
  have hp4 : ∀ x ∈ os, 0 ≤ x ∧ x ≤ 60 := fun x hx => by
    have := po.mem_iff.mp hx
    simp at this; omega
  refine compG G4 S27 (by decide) rfl rfl (by rw [sizeLine_eq]; omega) (fun k γ' mu' acc => mu' = (L + 2, Cel (some (.ref o))) :: (L + 1, Cel (some (.ref D))) :: [] ∧ GRs γ' acc (famL (fun i => tru cs (memI i) os.reverse 0) k)) ⟨rfl, .nil⟩ ?_ ?_
  · rintro k v C4 D4 mc γ' mu' acc4 h' tk' E' hk hacc4 le ⟨rfl, hR4⟩ ⟨tt, rfl⟩ hm S28
    clear S27
    have es := famL_succ (fun i => tru cs (memI i) os.reverse 0) k
    walk_at "m walk"
    rename St _ _ _ _ _ => S29
    refine members (d := 0) (u := 0) S29 (AX'.top.le (by omega) (by omega)) X T ?_
    intro b4 γa h14 tk14 lea gb4 S30
    clear S29
    obtain ⟨bvs, gb5, ib5⟩ := id gb4
    walk_at "m walk"
    rename St _ _ _ _ _ => S31
    have leQ := (le7z.trans le).trans lea
    refine lawTrue (d := 0) (u := 0) X T hI ib5 4 S31 (AX'.top.le (by omega) (by omega)) (by decide) (by rw [po.length_eq]; rfl) (((gD.le le6).le le7).le leQ) gb5 ((go.le le7).le leQ) io hp4 ?_
    intro γb h15 tk15 leb S32
    clear S31
    walk_at "m walk"
    rename St _ _ _ _ _ => S33
    refine ⟨γb, _, _, _, _, rfl, lea.trans leb, hm, S33, ?_⟩
    have hRb := hR4.le (lea.trans leb)
    by_cases hq : tru cs (memI (k : Int)) os.reverse 0 = true
    · rw [if_pos hq]
      rw [if_pos hq] at es
      walk_at "m walk"
      rename St _ _ _ _ _ => S34
      refine members (d := 0) (u := 0) S34 (AX'.top.le (by omega) (by omega)) X T ?_
      intro b6 γc h16 tk16 lec gb6 S35
      exact ⟨γc, _, _, _, _, rfl, lec, S35, rfl, by rw [es]; exact (hRb.le lec).append (.cons gb6 .nil)⟩
    · rw [if_neg hq]
      rw [if_neg hq, List.append_nil] at es
      exact ⟨rfl, by rw [es]; exact hRb⟩
  rintro C4 D4 mc4 γ14 mu' acc4 h' tk' hacc4 le14 ⟨rfl, hR4⟩ S28
  clear S27
  refine compFinUse S28 rfl ?_
  intro h16 tk16 S29
  obtain ⟨γ15, le15, gD4, S30⟩ := S29.freezeL
  clear S28 S29
  walk_at "m walk"
  rename St _ _ _ _ _ => S31
  have lR4 := hR4.length
  have lr4 := hr4.length
  have lp2 := p2.length_eq
  refine opSorted S31 (HL.fro gD4) (hR4.le le15) (p2.nodup_iff.mpr nd2) (by omega) (by have := AX'.un; omega) ?_
  intro c5 γ16 vs5 rows5 h17 tk17 le17 gc5' hr5 pm5 so5 S32
  clear S31
  obtain rfl : rows5 = rows4 := sorted_uniq (pm5.trans p2) so5 so4
  have le11b := ((le13.trans le14).trans le15).trans le17
  refine opNeSame S32 (((hr4.rd glf).le le11b)) (hr5.rd gc5') (shaped_dR _) (eqv_dR _) (by have := AX'.un; omega) ?_
  walk_at "m walk"
  refine wpAny_For ?_
  walk_at "m walk"
  rename St _ _ _ _ _ => S33
  have glf' := glf.le le11b
  have hr4' := hr4.le le11b
  refine iterList S33 AX'.hd glf' ?_
  intro it5 h18 tk18 G5 S34
  clear S33
  have LT := ((((((le1.trans le2).trans le3).trans le4).trans le5).trans le6).trans le7).trans ((le8b.trans le12).trans le11b)
  refine forG G5 S34 rfl (fun i m γ' mu' => mu' = (L + 2, Cel (some (.ref o))) :: (L + 1, Cel (some (.ref D))) :: [] ∧ m "row" = some (.ref rw_)) ⟨rfl, by walk_at "m val"⟩ ?_ ?_
  · rintro i v m' γ' mu' h' tk' hi le ⟨rfl, em1⟩ hv S35
    clear S34
    obtain ⟨hi2, b, eb, xb, gb, ib⟩ := hr4'.get i hi
    have ev : v = .ref b := by rw [List.getElem?_eq_getElem hi, eb] at hv; exact (Option.some.inj hv).symm
    subst ev
    have gb' := gb.le le
    obtain ⟨rr, rl⟩ := ri4 rows5[i] (List.getElem_mem _)
    have lb := ib.length
    have zb : xb.length ≤ sizeLine := by rw [sizeLine_eq]; omega
    walk_at "m walk"
    · rename St _ _ _ _ _ => S36
      have leR := (le8b.trans le12).trans le11b
      refine shattered (d := 0) (u := 0) S36 (AX'.top.le (by omega) (by omega)) X T ((gr.le leR).le le) ((hr.le leR).le le) (by omega) (fun r hr => ⟨(ri r hr).1, Nat.le_trans (ri r hr).2 (by decide)⟩) gb' ib rr rl ?_
      intro tr γq h19 tk19 leq sot ndt met S37
      clear S36
      have e := sh rows5[i] (List.getElem_mem _) tr ndt met
      rw [decide_eq_true e]
      walk_at "m walk"
      rename St _ _ _ _ _ => S38
      exact ⟨_, γq, _, _, _, rfl, leq, ⟨rfl, by walk_at "m val"⟩, S38⟩
    · rename St _ _ _ _ _ => S36
      exact ⟨_, γ', _, _, _, rfl, Gh.Le.rfl, ⟨rfl, by walk_at "m val"⟩, S36⟩
  · rintro m' γ' mu' h' tk' le ⟨rfl, em1⟩ S35
    walk_at "m walk"
    rename St _ _ _ _ _ => S36
    exact ⟨γ', _, _, rfl, rfl, S36.drop.drop.pop⟩)

theorem PySem.Challenge.cw_tv0031_01_holds : PySem.Challenge.rw_tv0031_01.Holds :=
  Mine.fin
