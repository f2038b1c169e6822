import PyProof.Rows.All
import Wide.All
import OpenK.AllK
import Wide.FinOn
import PySem.Challenge.RW_qj0005_01
set_option Elab.async false
namespace Mine
noncomputable section
section
open PySem PySem.W PyProof.Rows
set_option maxRecDepth 100000
set_option maxHeartbeats 8000000
open_top hd for PySem.Challenge.rw_qj0005_01
end
section
open PySem PySem.W PySem.Spec PySem.Calls PyProof.Rows
set_option maxRecDepth 100000
set_option maxHeartbeats 4000000
theorem q_abs {M : Model} {A : Around} {α : Type} {m : Sem α} {Q : α → Shared → Prop} {E : Value → Shared → Prop} {s : Shared} (k : ∀ Q' : α → Shared → Prop, (∀ a s', Q a s' → Q' a s') → wpAny M A m Q' E s) : wpAny M A m Q E s := k Q fun _ _ x => x
theorem q_absF {M : Model} {A : Around} {α β : Type} {m : Sem α} {n : Sem β} {Q : β → Shared → Prop} {E E' : Value → Shared → Prop} {s : Shared} (k : ∀ Q' : β → Shared → Prop, (∀ a s', Q a s' → Q' a s') → wpAny M A m (fun _ s₂ => wpAny M A n Q' E' s₂) E s) :
    wpAny M A m (fun _ s₂ => wpAny M A n Q E' s₂) E s := k Q fun _ _ x => x
theorem q_while {prog : Program} {w : World} {A : Around} {E : Value → Shared → Prop} {env : Env} {s : Shared} {test : Expr} {body : List Stmt} {pos : Pos} {Q : Flow → Shared → Prop} (I : Nat → Shared → Prop)
    (turn : ∀ n s, I n s → ∀ K : Shared → Prop, (∀ m s', m < n → I m s' → K s') → wpAny (model prog w) A (isTrue test env (eval test env)) (fun b s₂ => (b = true → wpAny (model prog w) A (execs body env) (fun f s₃ => match f with
      | .next | .cont => K s₃
      | .brk => Q .next s₃
      | .ret v => Q (.ret v) s₃) (fun _ _ => False) s₂) ∧ (b = false → Q .next s₂)) (fun _ _ => False) s)
    (n : Nat) (h : I n s) : wpAny (model prog w) A (exec (.While test body [] pos) env) Q E s :=
  wpAny_While (codeAny_whileLoop I (fun n s hI => wpAny_mono (turn n s hI (fun s' => ∃ m, m < n ∧ I m s') fun m s' a b => ⟨m, a, b⟩) (fun b s₂ hb => by
    cases b with
    | true => rw [if_pos rfl]; exact wpAny_mono (hb.1 rfl) (fun f s₃ hf => by cases f <;> exact hf) fun _ _ z => z.elim
    | false => rw [if_neg (by decide)]; exact wpAny_execs_nil (hb.2 rfl)) fun _ _ z => z.elim) n h)
/-- every object of h stands in h' as it was -/
abbrev Keep (h h' : Heap) : Prop := ∀ b o, h.get? b = some o → h'.get? b = some o
theorem Keep.refl (h : Heap) : Keep h h := fun _ _ e => e
theorem Keep.trans {a b c : Heap} (x : Keep a b) (y : Keep b c) : Keep a c := fun n o e => y n o (x n o e)
theorem Keep.push (h : Heap) (o : Obj) : Keep h (h.push o) := fun _ _ e => Heap.get?_push_of_some o e
abbrev Locals := List (Str × Option Value)
abbrev Led := List (Addr × Obj)
/-- where x stands among the frame's names -/
inductive Has : Locals → Str → Value → Prop
  | here {x : Str} {v : Value} {r : Locals} : Has ((x, some v) :: r) x v
  | there {x : Str} {v : Value} {p : Str × Option Value} {r : Locals} : Has r x v → Has (p :: r) x v
theorem Has.mem {fr : Locals} {x : Str} {v : Value} (h : Has fr x v) : (x, some v) ∈ fr := by
  induction h with
  | here => exact List.mem_cons_self
  | there _ ih => exact List.mem_cons_of_mem _ ih
inductive Put : Locals → Str → Value → Locals → Prop
  | here {x : Str} {v : Value} {u : Option Value} {r : Locals} : Put ((x, u) :: r) x v ((x, some v) :: r)
  | there {x : Str} {v : Value} {p : Str × Option Value} {r r' : Locals} : Put r x v r' → Put (p :: r) x v (p :: r')
theorem Put.names {fr fr' : Locals} {x : Str} {v : Value} (h : Put fr x v fr') : fr'.map (·.1) = fr.map (·.1) := by
  induction h with
  | here => rfl
  | there _ ih => rw [List.map_cons, List.map_cons, ih]
theorem Put.old {fr fr' : Locals} {x : Str} {v : Value} (h : Put fr x v fr') : ∃ u, (x, u) ∈ fr := by
  induction h with
  | here => exact ⟨_, List.mem_cons_self⟩
  | there _ ih => obtain ⟨u, hu⟩ := ih; exact ⟨u, List.mem_cons_of_mem _ hu⟩
theorem Put.at {fr fr' : Locals} {x : Str} {v : Value} (h : Put fr x v fr') : (fr.map (·.1)).Nodup → ∀ p ∈ fr', (p.1 = x ∧ p.2 = some v) ∨ (p.1 ≠ x ∧ p ∈ fr) := by
  induction h with
  | @here x v u r =>
    intro nd p hp
    rw [List.map_cons, List.nodup_cons] at nd
    rcases List.mem_cons.mp hp with rfl | hp
    · exact .inl ⟨rfl, rfl⟩
    · exact .inr ⟨fun e => nd.1 (by rw [← e]; exact List.mem_map_of_mem (f := (·.1)) hp), List.mem_cons_of_mem _ hp⟩
  | @there x v q r r' h ih =>
    intro nd p hp
    rw [List.map_cons, List.nodup_cons] at nd
    rcases List.mem_cons.mp hp with rfl | hp
    · obtain ⟨u, hu⟩ := h.old
      exact .inr ⟨fun e => nd.1 (by rw [e]; exact List.mem_map_of_mem (f := (·.1)) hu), List.mem_cons_self⟩
    · rcases ih nd.2 p hp with a | ⟨a, b⟩
      · exact .inl a
      · exact .inr ⟨a, List.mem_cons_of_mem _ b⟩
/-- the ledger with the object at a turned into o -/
inductive Turn : Led → Addr → Obj → Led → Prop
  | here {a : Addr} {o u : Obj} {r : Led} : Turn ((a, u) :: r) a o ((a, o) :: r)
  | there {a : Addr} {o : Obj} {p : Addr × Obj} {r r' : Led} : Turn r a o r' → Turn (p :: r) a o (p :: r')
theorem Turn.names {nw nw' : Led} {a : Addr} {o : Obj} (h : Turn nw a o nw') : nw'.map (·.1) = nw.map (·.1) := by
  induction h with
  | here => rfl
  | there _ ih => rw [List.map_cons, List.map_cons, ih]
theorem Turn.old {nw nw' : Led} {a : Addr} {o : Obj} (h : Turn nw a o nw') : ∃ u, (a, u) ∈ nw := by
  induction h with
  | here => exact ⟨_, List.mem_cons_self⟩
  | there _ ih => obtain ⟨u, hu⟩ := ih; exact ⟨u, List.mem_cons_of_mem _ hu⟩
theorem Turn.at {nw nw' : Led} {a : Addr} {o : Obj} (h : Turn nw a o nw') : (nw.map (·.1)).Nodup → ∀ p ∈ nw', (p.1 = a ∧ p.2 = o) ∨ (p.1 ≠ a ∧ p ∈ nw) := by
  induction h with
  | @here a o u r =>
    intro nd p hp
    rw [List.map_cons, List.nodup_cons] at nd
    rcases List.mem_cons.mp hp with rfl | hp
    · exact .inl ⟨rfl, rfl⟩
    · exact .inr ⟨fun e => nd.1 (by rw [← e]; exact List.mem_map_of_mem (f := (·.1)) hp), List.mem_cons_of_mem _ hp⟩
  | @there a o q r r' h ih =>
    intro nd p hp
    rw [List.map_cons, List.nodup_cons] at nd
    rcases List.mem_cons.mp hp with rfl | hp
    · obtain ⟨u, hu⟩ := h.old
      exact .inr ⟨fun e => nd.1 (by rw [e]; exact List.mem_map_of_mem (f := (·.1)) hu), List.mem_cons_self⟩
    · rcases ih nd.2 p hp with a | ⟨a, b⟩
      · exact .inl a
      · exact .inr ⟨a, List.mem_cons_of_mem _ b⟩
/-- a frame at work: what stood ahead of it stands; its names; what it has made and still looks at -/
structure St (h₀ : Heap) (env : Env) (h : Heap) (fr : Locals) (nw : Led) : Prop where
  fn : env.scope.kind = .function
  ns : ∃ m, h.Ns env.locals m ∧ ∀ p ∈ fr, m p.1 = p.2
  nd : (fr.map (·.1)).Nodup
  kd : ∀ p ∈ fr, env.kindOf p.1 = some .local ∧ (p.1 == ("__debug__" : Str)) = false
  keep : Keep h₀ h
  apart : h₀.get? env.locals = none
  new : ∀ p ∈ nw, h.get? p.1 = some p.2 ∧ h₀.get? p.1 = none
  ndn : (env.locals :: nw.map (·.1)).Nodup
section
variable {h₀ h h' : Heap} {env : Env} {fr fr' : Locals} {nw nw' : Led}
theorem St.get (S : St h₀ env h fr nw) {a : Addr} {o : Obj} (hm : (a, o) ∈ nw) : h.get? a = some o := (S.new _ hm).1
theorem St.ne (S : St h₀ env h fr nw) {a : Addr} {o : Obj} (hm : (a, o) ∈ nw) : a ≠ env.locals := fun e =>
  (List.nodup_cons.mp S.ndn).1 (e ▸ List.mem_map_of_mem (f := (·.1)) hm)
theorem St.keeps (S : St h₀ env h fr nw) (k : Keep h h') : St h₀ env h' fr nw :=
  ⟨S.fn, let ⟨m, a, b⟩ := S.ns; ⟨m, a.keeps k, b⟩, S.nd, S.kd, S.keep.trans k, S.apart, fun p hp => ⟨k _ _ (S.new p hp).1, (S.new p hp).2⟩, S.ndn⟩
theorem St.nsAt (S : St h₀ env h fr nw) : ∃ o, h.get? env.locals = some o := let ⟨_, ⟨o, _, _, ho, _⟩, _⟩ := S.ns; ⟨o, ho⟩
theorem St.none_size (S : St h₀ env h fr nw) : h₀.get? h.objs.size = none := by
  cases e : h₀.get? h.objs.size with
  | none => rfl
  | some o => exact absurd (Heap.lt_size (S.keep _ _ e)) (Nat.lt_irrefl _)
theorem St.push (S : St h₀ env h fr nw) (o : Obj) (hf : o.isFreed = false := by rfl) : St h₀ env (h.push o) fr ((h.objs.size, o) :: nw) := by
  have S' := S.keeps (Keep.push h o)
  refine ⟨S.fn, S'.ns, S.nd, S.kd, S'.keep, S.apart, ?_, ?_⟩
  · intro p hp
    rcases List.mem_cons.mp hp with rfl | hp
    · exact ⟨Heap.get?_push_size _ hf, S.none_size⟩
    · exact S'.new p hp
  · obtain ⟨oL, hL⟩ := S.nsAt
    have q := List.nodup_cons.mp S.ndn
    refine List.nodup_cons.mpr ⟨?_, List.nodup_cons.mpr ⟨?_, q.2⟩⟩
    · intro hm
      rcases List.mem_cons.mp hm with e | hm
      · exact absurd (Heap.lt_size hL) (by rw [e]; exact Nat.lt_irrefl _)
      · exact q.1 hm
    · intro hm
      obtain ⟨p, hp, e⟩ := List.mem_map.mp hm
      exact absurd (Heap.lt_size (S.new p hp).1) (by rw [e]; exact Nat.lt_irrefl _)
theorem St.store (S : St h₀ env h fr nw) {x : Str} {v : Value} (hp : Put fr x v fr') {m : Str → Option Value} (hm : ∀ p ∈ fr, m p.1 = p.2)
    (hn : h'.Ns env.locals (fun y => if y = x then some v else m y)) (hs : Heap.SameBut env.locals h h') : St h₀ env h' fr' nw := by
  refine ⟨S.fn, ⟨_, hn, ?_⟩, by rw [hp.names]; exact S.nd, ?_, ?_, S.apart, ?_, S.ndn⟩
  · intro p hpm
    rcases hp.at S.nd p hpm with ⟨a, b⟩ | ⟨a, b⟩
    · rw [if_pos a, b]
    · rw [if_neg a]; exact hm p b
  · intro p hpm
    rcases hp.at S.nd p hpm with ⟨a, _⟩ | ⟨_, b⟩
    · obtain ⟨u, hu⟩ := hp.old
      rw [a]; exact S.kd (x, u) hu
    · exact S.kd p b
  · intro b o e
    exact hs.extBut b o (fun z => by rw [z, S.apart] at e; cases e) (S.keep b o e)
  · intro p hpn
    exact ⟨(hs.2 p.1 (S.ne (o := p.2) hpn)).trans (S.new p hpn).1, (S.new p hpn).2⟩
theorem St.turn (S : St h₀ env h fr nw) {a : Addr} {o : Obj} (ht : Turn nw a o nw') (hs : Heap.SameBut a h h') (hg : h'.get? a = some o) : St h₀ env h' fr nw' := by
  obtain ⟨u, hu⟩ := ht.old
  have na := S.ne hu
  have q := List.nodup_cons.mp S.ndn
  refine ⟨S.fn, let ⟨m, x, y⟩ := S.ns; ⟨m, x.sameBut hs (Ne.symm na), y⟩, S.nd, S.kd, ?_, S.apart, ?_, by rw [ht.names]; exact S.ndn⟩
  · intro b ob e
    exact hs.extBut b ob (fun z => by rw [z, (S.new _ hu).2] at e; cases e) (S.keep b ob e)
  · intro p hp
    rcases ht.at q.2 p hp with ⟨x, y⟩ | ⟨x, y⟩
    · rw [x, y]; exact ⟨hg, (S.new _ hu).2⟩
    · exact ⟨(hs.2 p.1 x).trans (S.new p y).1, (S.new p y).2⟩
/-- fewer names, fewer objects -/
theorem St.sub (S : St h₀ env h fr nw) (hs : nw'.Sublist nw) : St h₀ env h fr nw' :=
  ⟨S.fn, S.ns, S.nd, S.kd, S.keep, S.apart, fun p hp => S.new p (hs.subset hp), S.ndn.sublist ((hs.map _).cons_cons _)⟩
theorem St.drop1 (S : St h₀ env h fr (p :: nw)) : St h₀ env h fr nw := S.sub (List.sublist_cons_self _ _)
end
/-- the state with another heap and another number of marks -/
abbrev sh (s : Shared) (h : Heap) (t : Nat) : Shared := ⟨h, s.gens, s.drawn, t, s.os⟩
section
variable {M : Model} {A : Around} {E : Value → Shared → Prop} {s : Shared} {t : Nat} {h₀ h : Heap} {env : Env} {fr fr' : Locals} {nw : Led}
theorem q_ldn {x : Str} {v : Value} {Q : Value → Shared → Prop} (S : St h₀ env h fr nw) (hv : Has fr x v) (k : Q v (sh s h t)) : wpAny M A (loadName env x) Q E (sh s h t) := by
  obtain ⟨m, hn, hm⟩ := S.ns
  exact wpAny_loadName_local S.fn (S.kd _ hv.mem).1 hn (hm _ hv.mem) k
theorem q_ld {x : Str} {pos : Pos} {v : Value} {Q : Value → Shared → Prop} (S : St h₀ env h fr nw) (hv : Has fr x v) (k : Q v (sh s h t)) : wpAny M A (eval (.Name x pos) env) Q E (sh s h t) :=
  wpAny_Name (q_ldn S hv k) (S.kd _ hv.mem).2
theorem q_st {x : Str} {v : Value} {Q : Unit → Shared → Prop} (S : St h₀ env h fr nw) (hp : Put fr x v fr')
    (k : ∀ h' t', St h₀ env h' fr' nw → Q () (sh s h' t')) : wpAny M A (storeName env x v) Q E (sh s h t) := by
  obtain ⟨m, hn, hm⟩ := S.ns
  obtain ⟨u, hu⟩ := hp.old
  exact wpAny_storeName_local (S.kd _ hu).1 hn (fun h' hn' hs' => k h' _ (S.store hp hm hn' hs')) (by rw [S.fn]; rfl)
theorem q_cint {i : Int} {j : Nat} {pos : Pos} {Q : Value → Shared → Prop} (k : ∀ u t', Q (.int i u) (sh s h t')) : wpAny M A (eval (.Constant (.int i) j pos) env) Q E (sh s h t) := wpAny_Constant_int (k _ _)
theorem q_cstr {x : Str} {j : Nat} {pos : Pos} {Q : Value → Shared → Prop} (k : ∀ u t', Q (.str x u) (sh s h t')) : wpAny M A (eval (.Constant (.str x) j pos) env) Q E (sh s h t) := wpAny_Constant_str (k _ _)
theorem q_if {test : Expr} {body orelse : List Stmt} {pos : Pos} {Q : Flow → Shared → Prop} {s : Shared} (k : wpAny M A (isTrue test env (eval test env)) (fun b s₂ => (b = true → wpAny M A (execs body env) Q E s₂) ∧ (b = false → wpAny M A (execs orelse env) Q E s₂)) E s) :
    wpAny M A (exec (.If test body orelse pos) env) Q E s :=
  wpAny_If (wpAny_mono k (fun b _ h => by cases b with | true => exact h.1 rfl | false => exact h.2 rfl) fun _ _ h => h)
theorem q_ifexp {test body orelse : Expr} {pos : Pos} {Q : Value → Shared → Prop} {s : Shared} (k : wpAny M A (isTrue test env (eval test env)) (fun b s₂ => (b = true → wpAny M A (eval body env) Q E s₂) ∧ (b = false → wpAny M A (eval orelse env) Q E s₂)) E s) :
    wpAny M A (eval (.IfExp test body orelse pos) env) Q E s :=
  wpAny_IfExp (wpAny_mono k (fun b _ h => by cases b with | true => exact h.1 rfl | false => exact h.2 rfl) fun _ _ h => h)
end
section
variable {prog : Program} {w : World} {A : Around} {E : Value → Shared → Prop} {s : Shared} {t : Nat} {h : Heap} {a b : Int} {p q : Tok} {Q : Value → Shared → Prop}
theorem q_add (k : ∀ u t', Q (.int (a + b) u) (sh s h t')) : wpAny (model prog w) A (binaryOp .Add (.int a p) (.int b q)) Q E (sh s h t) := wpAny_add_int (k _ _)
theorem q_iadd (k : ∀ u t', Q (.int (a + b) u) (sh s h t')) : wpAny (model prog w) A (inplaceOp .Add (.int a p) (.int b q)) Q E (sh s h t) := wpAny_iadd_int (k _ _)
theorem q_sub (k : ∀ u t', Q (.int (a - b) u) (sh s h t')) : wpAny (model prog w) A (binaryOp .Sub (.int a p) (.int b q)) Q E (sh s h t) := P.sub_int (k _ _)
theorem q_mul (hm : IntMulOk a b) (k : ∀ u t', Q (.int (a * b) u) (sh s h t')) : wpAny (model prog w) A (binaryOp .Mult (.int a p) (.int b q)) Q E (sh s h t) := P.mul_int (k _ _) hm
theorem q_mod (hb : b ≠ 0) (k : ∀ u t', Q (.int (a.fmod b) u) (sh s h t')) : wpAny (model prog w) A (binaryOp .Mod (.int a p) (.int b q)) Q E (sh s h t) := mod_int hb (k _ _)
theorem q_fdiv (hb : b ≠ 0) (hp : Builtin.divisionGoesByPylong a b = false) (k : ∀ u t', Q (.int (a.fdiv b) u) (sh s h t')) : wpAny (model prog w) A (binaryOp .FloorDiv (.int a p) (.int b q)) Q E (sh s h t) := floordiv_int hb (k _ _) (.inl hp)
theorem q_ifdiv (hb : b ≠ 0) (hp : Builtin.divisionGoesByPylong a b = false) (k : ∀ u t', Q (.int (a.fdiv b) u) (sh s h t')) : wpAny (model prog w) A (inplaceOp .FloorDiv (.int a p) (.int b q)) Q E (sh s h t) := ifloordiv_int hb (k _ _) (.inl hp)
theorem q_lt (k : Q (.bool (decide (a < b))) (sh s h t)) : wpAny (model prog w) A (compareOp .Lt (.int a p) (.int b q)) Q E (sh s h t) := P.lt_int k
theorem q_le (k : Q (.bool (decide (a ≤ b))) (sh s h t)) : wpAny (model prog w) A (compareOp .LtE (.int a p) (.int b q)) Q E (sh s h t) := P.le_int k
theorem q_gt (k : Q (.bool (decide (a > b))) (sh s h t)) : wpAny (model prog w) A (compareOp .Gt (.int a p) (.int b q)) Q E (sh s h t) := P.gt_int k
theorem q_ge (k : Q (.bool (decide (a ≥ b))) (sh s h t)) : wpAny (model prog w) A (compareOp .GtE (.int a p) (.int b q)) Q E (sh s h t) := P.ge_int k
theorem q_eq (k : Q (.bool (a == b)) (sh s h t)) : wpAny (model prog w) A (compareOp .Eq (.int a p) (.int b q)) Q E (sh s h t) := P.eq_int k
theorem q_ne (k : Q (.bool (a != b)) (sh s h t)) : wpAny (model prog w) A (compareOp .NotEq (.int a p) (.int b q)) Q E (sh s h t) := P.ne_int k
theorem q_iadds {x y : Str} (hsz : x.length + y.length ≤ sizeLine) (k : ∀ u t', Q (.str (x ++ y) u) (sh s h t')) : wpAny (model prog w) A (inplaceOp .Add (.str x p) (.str y q)) Q E (sh s h t) := iadd_str (fun _ _ => k _ _) hsz
theorem q_adds {x y : Str} (hsz : x.length + y.length ≤ sizeLine) (k : ∀ u t', Q (.str (x ++ y) u) (sh s h t')) : wpAny (model prog w) A (binaryOp .Add (.str x p) (.str y q)) Q E (sh s h t) := add_str (fun _ _ => k _ _) hsz
end
theorem noPylong {a b : Int} (hb : b.natAbs < 2 ^ 64) : Builtin.divisionGoesByPylong a b = false := by
  have hl : b.natAbs.log2 ≤ 64 := by
    by_cases z : b.natAbs = 0
    · rw [z]; decide
    · have := (Nat.log2_lt z).mpr hb; omega
  unfold Builtin.divisionGoesByPylong
  simp only [Bool.and_eq_false_iff, decide_eq_false_iff_not]
  left
  split <;> omega
end
local macro_rules | `(tactic| walk_at "has") => `(tactic| (repeat (first | exact Has.here | apply Has.there)))
local macro_rules | `(tactic| walk_at "put") => `(tactic| (repeat (first | exact Put.here | apply Put.there)))
local macro_rules | `(tactic| walk_at "mem") => `(tactic| (repeat (first | exact List.Mem.head _ | apply List.Mem.tail)))
local macro_rules | `(tactic| walk_at "turn") => `(tactic| (repeat (first | exact Turn.here | apply Turn.there)))
section
open PySem PySem.W PySem.Spec PySem.Calls PyProof.Rows
set_option maxRecDepth 100000
set_option maxHeartbeats 4000000
noncomputable abbrev KK (w : World) : Frag := hd.heap_39 w.params
/-- what every function of the text looks at -/
structure Gl (w : World) (h : Heap) : Prop where
  kx : (KK w).In h
  b : ∃ m, h.Ns builtinsNs m ∧ m "len" = some (.builtin "len") ∧ m "range" = some (.type "range") ∧ m "max" = some (.builtin "max") ∧ m "tuple" = some (.type "tuple") ∧ m "reversed" = some (.type "reversed")
  lim : h.NoLimit
theorem Gl.keeps {w : World} {h h' : Heap} (G : Gl w h) (k : Keep h h') : Gl w h' :=
  ⟨G.kx.keeps k, let ⟨m, x, y⟩ := G.b; ⟨m, x.keeps k, y⟩, G.lim.keeps k⟩
noncomputable def globE (P : Params) : Array DictEntry := match (hd.heap_39 P).lookup 3 with
  | some ⟨_, _, .dict es _, _⟩ => es
  | _ => #[]
theorem look3 (P : Params) : ∃ n, (hd.heap_39 P).lookup 3 = some ⟨.type "dict", none, .dict (globE P) n, #[]⟩ := ⟨_, rfl⟩
def keysStr (l : List DictEntry) : Bool := l.all fun e => match e.key with | .str _ _ => true | _ => false
theorem strKeys_of {es : Array DictEntry} (h : keysStr es.toList = true) : StrKeys es := by
  intro e he
  have := List.all_eq_true.mp h e (Array.mem_toList_iff.mpr he)
  cases hk : e.key with
  | str n t => exact ⟨n, t, rfl⟩
  | _ => rw [hk] at this; cases this
theorem globKeys (P : Params) : keysStr (globE P).toList = true := by rfl
theorem Gl.glob {w : World} {h : Heap} (G : Gl w h) : h.Ns mainGlobals (fun x => nsFind (globE w.params) x) := by
  obtain ⟨n, e⟩ := look3 w.params
  exact ⟨_, _, n, G.kx _ _ e, rfl, strKeys_of (globKeys _), fun _ => rfl⟩
/-- room left: frames, units -/
structure Rm (A : Around) (d u : Nat) : Prop where
  hd : A.handled = none
  dp : A.depth + d < recursionLimit
  un : A.units + u < cLine
theorem Rm.deeper {A : Around} {d u : Nat} (R : Rm A (d + 1) (u + 3)) (env : Env) : Rm (A.deeper env) d u :=
  ⟨R.hd, by have := R.dp; show A.depth + 1 + d < _; omega, by have := R.un; show A.units + 3 + u < _; omega⟩
theorem Rm.in1 {A : Around} {d u : Nat} (R : Rm A d (u + 1)) : Rm A.in1 d u :=
  ⟨R.hd, R.dp, by have := R.un; show A.units + 1 + u < _; omega⟩
theorem Rm.less {A : Around} {d u d' u' : Nat} (R : Rm A d u) (hd : d' ≤ d := by decide) (hu : u' ≤ u := by decide) : Rm A d' u' :=
  ⟨R.hd, by have := R.dp; omega, by have := R.un; omega⟩
/-- the env of a def of the text, or of a comprehension within -/
structure EnvIs (env : Env) (scope : Scope) (cells : List (Str × Addr)) : Prop where
  kd : ∀ x k, scope.names.lookup x = some k → k ≠ .free → env.kindOf x = some k
  fr : ∀ x, scope.names.lookup x = some .free → env.kindOf x = some .free ∨ env.kindOf x = some .cell
  gl : env.globals = mainGlobals
  bu : env.builtins = builtinsNs
  ce : env.cells = cells
theorem EnvIs.of {env : Env} {scope : Scope} (h : env.scope = scope) (g : env.globals = mainGlobals) (b : env.builtins = builtinsNs) {cells : List (Str × Addr)} (c : env.cells = cells) : EnvIs env scope cells :=
  ⟨fun x k e _ => by unfold Env.kindOf; rw [h]; exact e, fun x e => .inl (by unfold Env.kindOf; rw [h]; exact e), g, b, c⟩
def okNames (scope : Scope) (ns bn : List Str) : Bool :=
  scope.kind == .function && !scope.isCoroutine && !scope.isGenerator && scope.names.all (fun x => x.2 != .cell) &&
  decide ns.Nodup && ns.all (fun x => scope.names.lookup x == some .local && x != ("__debug__" : Str)) && bn.all (fun x => scope.names.lookup x == some .local)
theorem codeRec_K {K : Frag} {h : Heap} {cd : Value} {q : Str} (X : K.In h) (e : codeIn K cd q = true) : h.CodeRec cd q := codeRec_of X e
theorem q_codeL {prog : Program} {w : World} {A : Around} {R : Result → Shared → Prop} {s : Shared} {h : Heap} {t : Nat} {a : Addr} {oc : Value} {od : Option Addr} {osl : Array (Option Value)} {fd : FuncData} {body : List Stmt} {args : List Value}
    (ns pn : List Str) (fr : Locals) (hroom : A.depth < recursionLimit) (G : Gl w h) (hl : (KK w).lookup a = some ⟨oc, od, .func fd, osl⟩) (hb : fd.body = .stmts body) (hc : codeIn (KK w) fd.code fd.qualname = true)
    (hg : fd.globals = mainGlobals ∧ fd.builtins = builtinsNs ∧ fd.closure = [])
    (hbind : bindArgs fd ⟨args, []⟩ = pure (pn.zip args)) (hok : okNames fd.scope ns pn = true) (hfr : (ns.map fun x => (x, (pn.zip args).reverse.lookup x)) = fr)
    (k : ∀ env h₁ t', EnvIs env fd.scope [] → env.locals = h.objs.size → St h env h₁ fr [] →
      wpAny (model prog w) (A.deeper env) (execs body env) (fun f s' => R (.ok (.ret (match f with | .ret v => v | _ => .none))) s') (fun _ _ => False) (sh s h₁ t')) :
    codeAny (model prog w) A (.call (.ref a) ⟨args, []⟩) R (sh s h t) := by
  subst hfr
  simp only [okNames, Bool.and_eq_true, beq_iff_eq, Bool.not_eq_true', List.all_eq_true, decide_eq_true_eq, bne_iff_ne, ne_eq] at hok
  obtain ⟨⟨⟨⟨⟨⟨hk, hco⟩, hge⟩, hce⟩, hnd⟩, hns⟩, hbn⟩ := hok
  refine codeAny_call_function hroom (G.kx _ _ hl) rfl hco hge hb (codeRec_of G.kx hc) ?_
  rw [hbind]
  refine wpAny_pure (wpAny_newFunctionEnv (fun x hx => hce x hx) (fun x hx => hbn x.1 (List.of_mem_zip hx).1) (fun h₁ hn hs => ⟨G.lim.fresh _ hs, ?_⟩) hk)
  refine codeAny_func (wpAny_mono (k _ h₁ _ (EnvIs.of rfl hg.1 hg.2.1 hg.2.2) rfl ?_) (fun _ _ x => x) (fun _ _ x => x.elim))
  refine ⟨hk, ⟨_, hn, ?_⟩, ?_, ?_, ?_, ?_, fun _ hp => (nomatch hp), List.nodup_cons.mpr ⟨fun hp => (nomatch hp), List.nodup_nil⟩⟩
  · intro p hp
    obtain ⟨x, _, rfl⟩ := List.mem_map.mp hp
    rfl
  · rw [List.map_map]
    have : ((fun x : Str × Option Value => x.1) ∘ fun x => (x, (pn.zip args).reverse.lookup x)) = id := rfl
    rw [this, List.map_id]; exact hnd
  · intro p hp
    obtain ⟨x, hx, rfl⟩ := List.mem_map.mp hp
    exact ⟨(hns x hx).1, by have := (hns x hx).2; simpa using this⟩
  · intro b o e
    exact hs.extBut b o (Nat.ne_of_lt (Heap.lt_size e)) (Heap.get?_push_of_some _ e)
  · show h.get? h.objs.size = none
    cases e : h.get? h.objs.size with
    | none => rfl
    | some o => exact absurd (Heap.lt_size e) (Nat.lt_irrefl _)
theorem q_call {prog : Program} {w : World} {A : Around} {Q E : Value → Shared → Prop} {s : Shared} {h : Heap} {t : Nat} {a : Addr} {oc : Value} {od : Option Addr} {osl : Array (Option Value)} {fd : FuncData} {body : List Stmt} {args : List Value} {d u : Nat}
    (ns pn : List Str) (fr : Locals) (R : Rm A (d + 1) (u + 3)) (G : Gl w h) (hl : (KK w).lookup a = some ⟨oc, od, .func fd, osl⟩) (hb : fd.body = .stmts body) (hc : codeIn (KK w) fd.code fd.qualname = true)
    (hg : fd.globals = mainGlobals ∧ fd.builtins = builtinsNs ∧ fd.closure = [])
    (hbind : bindArgs fd ⟨args, []⟩ = pure (pn.zip args)) (hok : okNames fd.scope ns pn = true) (hfr : (ns.map fun x => (x, (pn.zip args).reverse.lookup x)) = fr)
    (k : ∀ env h₁ t', EnvIs env fd.scope [] → Rm (A.deeper env) d u → St h env h₁ fr [] →
      wpAny (model prog w) (A.deeper env) (execs body env) (fun f s' => Q (match f with | .ret v => v | _ => .none) s') (fun _ _ => False) (sh s h₁ t')) :
    wpAny (model prog w) A (call (.ref a) args) Q E (sh s h t) :=
  wpAny_call (q_codeL ns pn fr (by have := R.dp; omega) G hl hb hc hg hbind hok hfr (fun env h₁ t' e _ S => k env h₁ t' e (R.deeper env) S))
section
variable {prog : Program} {w : World} {A : Around} {E : Value → Shared → Prop} {s : Shared} {t : Nat} {h₀ h : Heap} {env : Env} {fr : Locals} {nw : Led} {scope : Scope} {cells : List (Str × Addr)} {x : Str} {pos : Pos} {v : Value} {Q : Value → Shared → Prop}
theorem q_gl (G : Gl w h) (S : St h₀ env h fr nw) (e : EnvIs env scope cells) (hk : scope.names.lookup x = some .globalImplicit) (hg : nsFind (globE w.params) x = some v) (hd : (x == ("__debug__" : Str)) = false) (k : Q v (sh s h t)) :
    wpAny (model prog w) A (eval (.Name x pos) env) Q E (sh s h t) :=
  Name_function_global S.fn (e.kd _ _ hk (by decide)) (loadGlobal_global (by rw [e.gl]; exact G.glob) hg k) hd
theorem q_bi (G : Gl w h) (S : St h₀ env h fr nw) (e : EnvIs env scope cells) (hk : scope.names.lookup x = some .globalImplicit) (hg : nsFind (globE w.params) x = none)
    (hb : ∀ m : Str → Option Value, m "len" = some (.builtin "len") ∧ m "range" = some (.type "range") ∧ m "max" = some (.builtin "max") ∧ m "tuple" = some (.type "tuple") ∧ m "reversed" = some (.type "reversed") → m x = some v) (hd : (x == ("__debug__" : Str)) = false) (k : Q v (sh s h t)) :
    wpAny (model prog w) A (eval (.Name x pos) env) Q E (sh s h t) := by
  obtain ⟨m, hm, hv⟩ := G.b
  exact Name_function_global S.fn (e.kd _ _ hk (by decide)) (loadGlobal_builtin (by rw [e.gl]; exact G.glob) hg (by rw [e.bu]; exact hm) (hb m hv) k) hd
end
theorem nd_len : (Str.ofString "len" == ("__debug__" : Str)) = false := by decide +kernel
theorem ng_len (P : Params) : nsFind (globE P) (Str.ofString "len") = none := by rfl
theorem nd_range : (Str.ofString "range" == ("__debug__" : Str)) = false := by decide +kernel
theorem ng_range (P : Params) : nsFind (globE P) (Str.ofString "range") = none := by rfl
theorem nd_max : (Str.ofString "max" == ("__debug__" : Str)) = false := by decide +kernel
theorem ng_max (P : Params) : nsFind (globE P) (Str.ofString "max") = none := by rfl
theorem nd_tuple : (Str.ofString "tuple" == ("__debug__" : Str)) = false := by decide +kernel
theorem ng_tuple (P : Params) : nsFind (globE P) (Str.ofString "tuple") = none := by rfl
theorem nd_reversed : (Str.ofString "reversed" == ("__debug__" : Str)) = false := by decide +kernel
theorem ng_reversed (P : Params) : nsFind (globE P) (Str.ofString "reversed") = none := by rfl
section
variable {prog : Program} {w : World} {A : Around} {E : Value → Shared → Prop} {s : Shared} {t : Nat} {h₀ h : Heap} {env : Env} {fr : Locals} {nw : Led} {scope : Scope} {cells : List (Str × Addr)} {pos : Pos} {Q : Value → Shared → Prop}
theorem q_len (G : Gl w h) (S : St h₀ env h fr nw) (e : EnvIs env scope cells) (k : Q (.builtin "len") (sh s h t)) (hk : scope.names.lookup (Str.ofString "len") = some NameKind.globalImplicit := by rfl) :
    wpAny (model prog w) A (eval (.Name (Str.ofString "len") pos) env) Q E (sh s h t) := q_bi G S e hk (ng_len _) (fun _ h => h.1) nd_len k
theorem q_range (G : Gl w h) (S : St h₀ env h fr nw) (e : EnvIs env scope cells) (k : Q (.type "range") (sh s h t)) (hk : scope.names.lookup (Str.ofString "range") = some NameKind.globalImplicit := by rfl) :
    wpAny (model prog w) A (eval (.Name (Str.ofString "range") pos) env) Q E (sh s h t) := q_bi G S e hk (ng_range _) (fun _ h => h.2.1) nd_range k
theorem q_max (G : Gl w h) (S : St h₀ env h fr nw) (e : EnvIs env scope cells) (k : Q (.builtin "max") (sh s h t)) (hk : scope.names.lookup (Str.ofString "max") = some NameKind.globalImplicit := by rfl) :
    wpAny (model prog w) A (eval (.Name (Str.ofString "max") pos) env) Q E (sh s h t) := q_bi G S e hk (ng_max _) (fun _ h => h.2.2.1) nd_max k
theorem q_tuple (G : Gl w h) (S : St h₀ env h fr nw) (e : EnvIs env scope cells) (k : Q (.type "tuple") (sh s h t)) (hk : scope.names.lookup (Str.ofString "tuple") = some NameKind.globalImplicit := by rfl) :
    wpAny (model prog w) A (eval (.Name (Str.ofString "tuple") pos) env) Q E (sh s h t) := q_bi G S e hk (ng_tuple _) (fun _ h => h.2.2.2.1) nd_tuple k
theorem q_reversed (G : Gl w h) (S : St h₀ env h fr nw) (e : EnvIs env scope cells) (k : Q (.type "reversed") (sh s h t)) (hk : scope.names.lookup (Str.ofString "reversed") = some NameKind.globalImplicit := by rfl) :
    wpAny (model prog w) A (eval (.Name (Str.ofString "reversed") pos) env) Q E (sh s h t) := q_bi G S e hk (ng_reversed _) (fun _ h => h.2.2.2.2) nd_reversed k
end
end
section
open PySem PySem.W PySem.Spec PySem.Calls PyProof.Rows
set_option maxRecDepth 100000
set_option maxHeartbeats 4000000
theorem erase_ex (h : Heap) : ∀ xs : List Addr, ∃ h' : Heap, (∀ b, b ∈ xs → h'.get? b = none) ∧ ∀ b, b ∉ xs → h'.get? b = h.get? b
  | [] => ⟨h, fun _ hb => (nomatch hb), fun _ _ => rfl⟩
  | a :: xs => by
    obtain ⟨h', h1, h2⟩ := erase_ex h xs
    have hs : Heap.SameBut a h' (h'.update a fun o => { o with data := .freed }) := Heap.SameBut.update ..
    have ha : (h'.update a fun o => { o with data := .freed }).get? a = none := by
      obtain ⟨objs, l⟩ := h'
      unfold Heap.update Heap.get?
      simp only [Array.getElem?_modify]
      cases objs[a]? <;> simp
    refine ⟨h'.update a fun o => { o with data := .freed }, fun b hb => ?_, fun b hb => ?_⟩
    · by_cases e : b = a
      · subst e; exact ha
      · rcases List.mem_cons.mp hb with x | x
        · exact absurd x e
        · rw [hs.2 b e]; exact h1 b x
    · rw [hs.2 b (fun e => hb (e ▸ List.mem_cons_self))]
      exact h2 b (fun x => hb (List.mem_cons_of_mem _ x))
section
variable {h₀ h₁ h h' : Heap} {env : Env} {fr fr' : Locals} {nw nw' : Led}
theorem St.weaken (k : Keep h₀ h₁) (S : St h₁ env h fr nw) : St h₀ env h fr nw :=
  have q : ∀ b, h₁.get? b = none → h₀.get? b = none := fun b e => by
    cases x : h₀.get? b with
    | none => rfl
    | some o => rw [k b o x] at e; cases e
  ⟨S.fn, S.ns, S.nd, S.kd, k.trans S.keep, q _ S.apart, fun p hp => ⟨(S.new p hp).1, q _ (S.new p hp).2⟩, S.ndn⟩
/-- all that is neither the frame nor on the ledger goes to what stood ahead -/
theorem St.rebase (S : St h₀ env h fr nw) : ∃ h₁, Keep h₀ h₁ ∧ Keep h₁ h ∧ St h₁ env h fr nw ∧ ∀ b o, h.get? b = some o → b ≠ env.locals → b ∉ nw.map (·.1) → h₁.get? b = some o := by
  obtain ⟨h₁, e1, e2⟩ := erase_ex h (env.locals :: nw.map (·.1))
  have k1 : Keep h₁ h := fun b o e => by
    by_cases hb : b ∈ env.locals :: nw.map (·.1)
    · rw [e1 b hb] at e; cases e
    · rw [← e2 b hb]; exact e
  refine ⟨h₁, fun b o e => ?_, k1, ⟨S.fn, S.ns, S.nd, S.kd, k1, e1 _ List.mem_cons_self, fun p hp => ⟨(S.new p hp).1, e1 _ (List.mem_cons_of_mem _ (List.mem_map_of_mem (f := (·.1)) hp))⟩, S.ndn⟩, fun b o e n1 n2 => ?_⟩
  · rw [e2 b]
    · exact S.keep b o e
    · intro hb
      rcases List.mem_cons.mp hb with x | x
      · rw [x, S.apart] at e; cases e
      · obtain ⟨p, hp, rfl⟩ := List.mem_map.mp x
        rw [(S.new p hp).2] at e; cases e
  · rw [e2 b]
    · exact e
    · intro hb
      rcases List.mem_cons.mp hb with x | x
      · exact n1 x
      · exact n2 x
/-- one object apart from all turned -/
theorem St.other (S : St h₀ env h fr nw) {I : Addr} (hI : h₀.get? I = none) (h1 : I ≠ env.locals) (h2 : I ∉ nw.map (·.1)) (k : ∀ b o, b ≠ I → h.get? b = some o → h'.get? b = some o) : St h₀ env h' fr nw :=
  ⟨S.fn, let ⟨m, x, y⟩ := S.ns; ⟨m, x.at' fun o e => k _ o (Ne.symm h1) e, y⟩, S.nd, S.kd, fun b o e => k b o (fun z => by rw [z, hI] at e; cases e) (S.keep b o e), S.apart,
    fun p hp => ⟨k _ _ (fun z => h2 (z ▸ List.mem_map_of_mem (f := (·.1)) hp)) (S.new p hp).1, (S.new p hp).2⟩, S.ndn⟩
end
/-- where the iterator and what it looks at lie -/
structure Off (h₀ : Heap) (env : Env) (nw : Led) (I : Addr) (fp : List Addr) : Prop where
  it : h₀.get? I = none
  me : I ∈ fp
  lo : ∀ b ∈ fp, b ≠ env.locals
  nn : ∀ b ∈ fp, b ∉ nw.map (·.1)
def Live (fp : List Addr) (J : Nat → Heap → Prop) : Prop := ∀ i h, J i h → ∀ b ∈ fp, ∃ o, h.get? b = some o
section
variable {prog : Program} {w : World} {A : Around} {s : Shared} {h₀ h : Heap} {env : Env} {fr : Locals} {nw : Led} {t : Nat}
theorem q_loop {R : Result → Shared → Prop} {target : Expr} {body : List Stmt} {I : Addr} {fp : List Addr} {n : Nat} {P : Nat → Value → Prop} {J : Nat → Heap → Prop}
    (W : Walks prog w A I fp [I] n P J) (hL : Live fp J) (S : St h₀ env h fr nw) (hJ : J 0 h) (O : Off h₀ env nw I fp)
    (Inv : Nat → Locals → Led → Prop) (h0 : Inv 0 fr nw)
    (turn : ∀ i v h₁ h fr nw t, i < n → P i v → Inv i fr nw → Keep h₀ h₁ → St h₁ env h fr nw →
      wpAny (model prog w) A (assign target env v) (fun _ s₂ => wpAny (model prog w) A (execs body env) (fun f s₃ => match f with
        | .next | .cont => ∃ h' fr' nw' t', s₃ = sh s h' t' ∧ St h₁ env h' fr' nw' ∧ Inv (i + 1) fr' nw'
        | .brk => R (.ok .next) s₃
        | .ret v => R (.ok (.ret v)) s₃) (fun _ _ => False) s₂) (fun _ _ => False) (sh s h t))
    (done : ∀ h fr nw t, Inv n fr nw → St h₀ env h fr nw → R (.ok .next) (sh s h t))
    (ht : ∀ v, letOwnedTupleGo target (.ref I) v = pure () := by intro _; rfl) :
    codeAny (model prog w) A (.forLoop target (.ref I) body [] env) R (sh s h t) := by
  refine codeAny_forLoop (fun k s' => ∃ i h fr nw t, s' = sh s h t ∧ St h₀ env h fr nw ∧ J i h ∧ Off h₀ env nw I fp ∧ Inv i fr nw ∧ i ≤ n ∧ k = n + 1 - i) ?_ (n + 1) ⟨0, h, fr, nw, t, rfl, S, hJ, O, h0, Nat.zero_le _, rfl⟩ ht
  rintro k s' ⟨i, h, fr, nw, t, rfl, S, hJ, O, hI, hi, rfl⟩
  have one : ∀ b, b ∉ [I] ↔ b ≠ I := fun b => by simp
  by_cases hlt : i < n
  · refine W.item i _ _ _ hlt hJ fun v h' t' hP hJ' hk => ?_
    have S' := S.other (h' := h') O.it (O.lo _ O.me) (O.nn _ O.me) fun b o hb e => hk b o ((one b).mpr hb) e
    obtain ⟨h₁, k01, k1, S₁, hb₁⟩ := S'.rebase
    have fp₁ : ∀ b ∈ fp, ∃ o, h₁.get? b = some o := fun b hb => by
      obtain ⟨o, ho⟩ := hL _ _ hJ' b hb
      exact ⟨o, hb₁ b o ho (O.lo b hb) (O.nn b hb)⟩
    refine wpAny_mono (turn i v h₁ h' fr nw t' hlt hP hI k01 S₁) (fun _ s₂ hx => wpAny_mono hx (fun f s₃ hf => ?_) fun _ _ x => x.elim) fun _ _ x => x.elim
    have fin : (∃ h' fr' nw' t', s₃ = sh s h' t' ∧ St h₁ env h' fr' nw' ∧ Inv (i + 1) fr' nw') → ∃ m, m < n + 1 - i ∧ ∃ i h fr nw t, s₃ = sh s h t ∧ St h₀ env h fr nw ∧ J i h ∧ Off h₀ env nw I fp ∧ Inv i fr nw ∧ i ≤ n ∧ m = n + 1 - i := by
      rintro ⟨h₂, fr₂, nw₂, t₂, rfl, S₂, hI₂⟩
      refine ⟨n + 1 - (i + 1), by omega, i + 1, h₂, fr₂, nw₂, t₂, rfl, S₂.weaken k01, ?_, ⟨O.it, O.me, O.lo, fun b hb hm => ?_⟩, hI₂, hlt, rfl⟩
      · refine W.frame (i + 1) h' h₂ hJ' fun b hb o e => S₂.keep b o ?_
        exact hb₁ b o e (O.lo b hb) (O.nn b hb)
      · obtain ⟨p, hp, rfl⟩ := List.mem_map.mp hm
        obtain ⟨o, ho⟩ := fp₁ _ hb
        rw [(S₂.new p hp).2] at ho; cases ho
    cases f with
    | next => exact fin hf
    | cont => exact fin hf
    | brk => exact hf
    | ret v => exact hf
  · have hin : i = n := by omega
    subst hin
    refine W.done _ _ _ hJ fun h' t' hk => wpAny_execs_nil (done _ _ _ _ hI ?_)
    exact S.other (h' := h') O.it (O.lo _ O.me) (O.nn _ O.me) fun b o hb e => hk b o ((one b).mpr hb) e
theorem St.newOff (S : St h₀ env h fr nw) : Off h₀ env nw h.objs.size [h.objs.size] := by
  have S' := S.push { cls := .none }
  have q := List.nodup_cons.mp S'.ndn
  refine ⟨S.none_size, List.mem_singleton.mpr rfl, fun b hb e => ?_, fun b hb hm => ?_⟩
  · rw [List.mem_singleton] at hb
    subst hb
    exact q.1 (by rw [← e]; exact List.mem_cons_self)
  · rw [List.mem_singleton] at hb
    subst hb
    exact (List.nodup_cons.mp q.2).1 hm
/-- for x in range(a, a + n) -/
theorem q_forRange {Q : Flow → Shared → Prop} {E : Value → Shared → Prop} {target iter : Expr} {body : List Stmt} {pos : Pos} {a b : Int} (n : Nat)
    (hA : A.handled = none) (hn : Builtin.Range.rangeSize a b 1 = (n : Int)) (hsm : Builtin.Range.small a b 1 = true)
    (Inv : Nat → Locals → Led → Prop)
    (hev : wpAny (model prog w) A (eval iter env) (fun x s₁ => ∃ r h₁ t₁ fr nw p q o, x = .ref r ∧ s₁ = sh s h₁ t₁ ∧ IsRange h₁ r a b 1 p q o ∧ St h₀ env h₁ fr nw ∧ Inv 0 fr nw) E (sh s h t))
    (turn : ∀ (i : Nat) u h₁ h fr nw t, i < n → Inv i fr nw → Keep h₀ h₁ → St h₁ env h fr nw →
      wpAny (model prog w) A (assign target env (.int (a + i) u)) (fun _ s₂ => wpAny (model prog w) A (execs body env) (fun f s₃ => match f with
        | .next | .cont => ∃ h' fr' nw' t', s₃ = sh s h' t' ∧ St h₁ env h' fr' nw' ∧ Inv (i + 1) fr' nw'
        | .brk => Q .next s₃
        | .ret v => Q (.ret v) s₃) (fun _ _ => False) s₂) (fun _ _ => False) (sh s h t))
    (done : ∀ h fr nw t, Inv n fr nw → St h₀ env h fr nw → Q .next (sh s h t))
    (hs : ∀ x, foldedSetIterable iter env x = pure x := by intro _; rfl)
    (ht : ∀ I v, letOwnedTupleGo target (.ref I) v = pure () := by intro _ _; rfl) :
    wpAny (model prog w) A (exec (.For target iter body [] pos) env) Q E (sh s h t) := by
  refine wpAny_For (wpAny_mono hev (fun x s₁ hx => ?_) fun _ _ x => x) hs
  obtain ⟨r, h₁, t₁, fr, nw, p, q, o, rfl, rfl, hr, S, hI⟩ := hx
  refine wpAny_pyIter_range hr hsm ?_
  have S' := S.keeps (Keep.push h₁ { cls := .type "range_iterator", data := .fields #[rawInt a, rawInt (Builtin.Range.rangeSize a b 1), rawInt 1] })
  refine q_loop (Walks.range hA h₁.objs.size a 1 n) ?_ S' ?_ S.newOff Inv hI (fun i v h₂ h fr nw t hi hP hI k S => ?_) (fun h fr nw t hI S => done h fr nw t hI S) (ht _)
  · intro i h' hJ b hb
    rw [List.mem_singleton] at hb
    subst hb
    exact ⟨_, hJ⟩
  · show IsRangeIter _ _ _ _ _
    have := Heap.get?_push_size h₁ (o := { cls := .type "range_iterator", data := .fields #[rawInt a, rawInt (Builtin.Range.rangeSize a b 1), rawInt 1] }) rfl
    rw [hn] at this
    unfold IsRangeIter
    rw [hn]
    simpa using this
  · obtain ⟨u, rfl⟩ := hP
    rw [Int.mul_one]
    exact turn i u h₂ h fr nw t hi hI k S
/-- for x in a text -/
theorem q_forStr {Q : Flow → Shared → Prop} {E : Value → Shared → Prop} {target iter : Expr} {body : List Stmt} {pos : Pos} {x : Str}
    (hA : A.handled = none) (Inv : Nat → Locals → Led → Prop)
    (hev : wpAny (model prog w) A (eval iter env) (fun v s₁ => ∃ h₁ t₁ fr nw p, v = .str x p ∧ s₁ = sh s h₁ t₁ ∧ St h₀ env h₁ fr nw ∧ Inv 0 fr nw) E (sh s h t))
    (turn : ∀ (i : Nat) c u h₁ h fr nw t, x.cps[i]? = some c → Inv i fr nw → Keep h₀ h₁ → St h₁ env h fr nw →
      wpAny (model prog w) A (assign target env (.str ⟨#[c]⟩ u)) (fun _ s₂ => wpAny (model prog w) A (execs body env) (fun f s₃ => match f with
        | .next | .cont => ∃ h' fr' nw' t', s₃ = sh s h' t' ∧ St h₁ env h' fr' nw' ∧ Inv (i + 1) fr' nw'
        | .brk => Q .next s₃
        | .ret v => Q (.ret v) s₃) (fun _ _ => False) s₂) (fun _ _ => False) (sh s h t))
    (done : ∀ h fr nw t, Inv x.cps.size fr nw → St h₀ env h fr nw → Q .next (sh s h t))
    (hs : ∀ x, foldedSetIterable iter env x = pure x := by intro _; rfl)
    (ht : ∀ I v, letOwnedTupleGo target (.ref I) v = pure () := by intro _ _; rfl) :
    wpAny (model prog w) A (exec (.For target iter body [] pos) env) Q E (sh s h t) := by
  refine wpAny_For (wpAny_mono hev (fun v s₁ hx => ?_) fun _ _ x => x) hs
  obtain ⟨h₁, t₁, fr, nw, p, rfl, rfl, S, hI⟩ := hx
  have go : ∀ (o : Obj) (J : Nat → Heap → Prop), Walks prog w A h₁.objs.size [h₁.objs.size] [h₁.objs.size] x.cps.size (SignAt x) J → Live [h₁.objs.size] J → J 0 (h₁.push o) →
      codeAny (model prog w) A (.forLoop target (.ref h₁.objs.size) body [] env) (fun r s' => match r with | .ok f => Q f s' | .error e => cameBackBy (model prog w) A env E e s') (sh s (h₁.push o) t₁) := by
    intro o J W hL hJ
    refine q_loop W hL (S.keeps (Keep.push h₁ o)) hJ S.newOff Inv hI (fun i v h₂ h fr nw t hi hP hI k S => ?_) (fun h fr nw t hI S => done h fr nw t hI S) (ht _)
    obtain ⟨c, u, hc, rfl⟩ := hP
    exact turn i c u h₂ h fr nw t hc hI k S
  cases ha : x.cps.all (· < 128)
  · refine wpAny_pyIter_wide ha (go _ _ (Walks.strWide hA _ x p) ?_ ⟨_, Heap.get?_push_size _ rfl, rfl, rfl⟩)
    intro i h' hJ b hb
    rw [List.mem_singleton] at hb
    subst hb
    exact ⟨_, hJ.choose_spec.1⟩
  · refine wpAny_pyIter_ascii ha (go _ _ (Walks.strAscii hA _ x p) ?_ ⟨_, Heap.get?_push_size _ rfl, rfl, rfl⟩)
    intro i h' hJ b hb
    rw [List.mem_singleton] at hb
    subst hb
    exact ⟨_, hJ.choose_spec.1⟩
/-- for x in a list -/
theorem q_forList {Q : Flow → Shared → Prop} {E : Value → Shared → Prop} {target iter : Expr} {body : List Stmt} {pos : Pos} {items : Array Value}
    (hA : A.handled = none) (Inv : Nat → Locals → Led → Prop)
    (hev : wpAny (model prog w) A (eval iter env) (fun v s₁ => ∃ l h₁ t₁ fr nw, v = .ref l ∧ s₁ = sh s h₁ t₁ ∧ h₁.IsList l items ∧ l ≠ env.locals ∧ l ∉ nw.map (·.1) ∧ St h₀ env h₁ fr nw ∧ Inv 0 fr nw) E (sh s h t))
    (turn : ∀ (i : Nat) v h₁ h fr nw t, items[i]? = some v → Inv i fr nw → Keep h₀ h₁ → St h₁ env h fr nw →
      wpAny (model prog w) A (assign target env v) (fun _ s₂ => wpAny (model prog w) A (execs body env) (fun f s₃ => match f with
        | .next | .cont => ∃ h' fr' nw' t', s₃ = sh s h' t' ∧ St h₁ env h' fr' nw' ∧ Inv (i + 1) fr' nw'
        | .brk => Q .next s₃
        | .ret v => Q (.ret v) s₃) (fun _ _ => False) s₂) (fun _ _ => False) (sh s h t))
    (done : ∀ h fr nw t, Inv items.size fr nw → St h₀ env h fr nw → Q .next (sh s h t))
    (hs : ∀ x, foldedSetIterable iter env x = pure x := by intro _; rfl)
    (ht : ∀ I v, letOwnedTupleGo target (.ref I) v = pure () := by intro _ _; rfl) :
    wpAny (model prog w) A (exec (.For target iter body [] pos) env) Q E (sh s h t) := by
  refine wpAny_For (wpAny_mono hev (fun v s₁ hx => ?_) fun _ _ x => x) hs
  obtain ⟨l, h₁, t₁, fr, nw, rfl, rfl, hl, hl1, hl2, S, hI⟩ := hx
  refine wpAny_pyIter_list hl ?_
  have lne : l ≠ h₁.objs.size := by obtain ⟨o, ho, _⟩ := hl; exact Nat.ne_of_lt (Heap.lt_size ho)
  have O := S.newOff
  refine q_loop (Walks.list hA h₁.objs.size l lne items) ?_ (S.keeps (Keep.push h₁ _)) ⟨⟨_, Heap.get?_push_size _ rfl, rfl, rfl⟩, hl.push _⟩ ⟨O.it, List.mem_cons_self, ?_, ?_⟩ Inv hI
    (fun i v h₂ h fr nw t hi hP hI k S => turn i v h₂ h fr nw t hP hI k S) (fun h fr nw t hI S => done h fr nw t hI S) (ht _)
  · intro i h' hJ b hb
    rcases List.mem_cons.mp hb with rfl | hb
    · exact ⟨_, hJ.1.choose_spec.1⟩
    · rw [List.mem_singleton] at hb
      subst hb
      exact ⟨_, hJ.2.choose_spec.1⟩
  · intro b hb
    rcases List.mem_cons.mp hb with rfl | hb
    · exact O.lo _ O.me
    · rw [List.mem_singleton] at hb
      subst hb; exact hl1
  · intro b hb
    rcases List.mem_cons.mp hb with rfl | hb
    · exact O.nn _ O.me
    · rw [List.mem_singleton] at hb
      subst hb; exact hl2
end
end
section
open PySem PySem.W PySem.Spec PySem.Calls PyProof.Rows
set_option maxRecDepth 100000
set_option maxHeartbeats 4000000
def relK (env : Env) (x : Str) (k : NameKind) : NameKind := if (k == .free && env.scope.kind == .function && env.kindOf x == some .cell) = true then .cell else k
theorem lookup_relabel {env : Env} : ∀ (names : List (Str × NameKind)) (x : Str),
    (names.map fun (n, k) => if (k == NameKind.free && env.scope.kind == .function && env.kindOf n == some .cell) then (n, NameKind.cell) else (n, k)).lookup x = (names.lookup x).map (relK env x)
  | [], _ => rfl
  | (n, k) :: r, x => by
    have ih := lookup_relabel (env := env) r x
    show List.lookup x ((if (k == NameKind.free && env.scope.kind == .function && env.kindOf n == some .cell) = true then (n, NameKind.cell) else (n, k)) :: _) = _
    cases hx : x == n with
    | true =>
      have e : x = n := beq_iff_eq.mp hx
      subst e
      by_cases hc : (k == NameKind.free && env.scope.kind == .function && env.kindOf x == some .cell) = true
      · rw [if_pos hc]; simp [relK, hc]
      · rw [if_neg hc]; simp [relK, hc]
    | false =>
      by_cases hc : (k == NameKind.free && env.scope.kind == .function && env.kindOf n == some .cell) = true
      · rw [if_pos hc]; simp only [List.lookup_cons, hx]; exact ih
      · rw [if_neg hc]; simp only [List.lookup_cons, hx]; exact ih
def closeOver (cells : List (Str × Addr)) : List (Str × NameKind) → List (Str × Addr) → List (Str × Addr)
  | [], acc => acc
  | (n, k) :: r, acc => if k == .free then closeOver cells r ((n, (cells.lookup n).getD 0) :: acc) else closeOver cells r acc
def closed (cells : List (Str × Addr)) (names : List (Str × NameKind)) : Bool := names.all fun (n, k) => k != .free || (cells.lookup n).isSome
theorem closureFor_go {env : Env} : ∀ (names : List (Str × NameKind)) (acc : List (Str × Addr)), closed env.cells names = true →
    (forIn names acc fun (x : Str × NameKind) (cs : List (Str × Addr)) => if x.2 == .free then (do let a ← cellOf env x.1; pure (ForInStep.yield ((x.1, a) :: cs))) else pure (ForInStep.yield cs)) = (pure (closeOver env.cells names acc) : Sem _)
  | [], acc, _ => rfl
  | (n, k) :: r, acc, h => by
    have h' : (k != .free || (env.cells.lookup n).isSome) = true ∧ closed env.cells r = true := by
      have : (closed env.cells ((n, k) :: r)) = ((k != .free || (env.cells.lookup n).isSome) && closed env.cells r) := rfl
      rw [this, Bool.and_eq_true] at h; exact h
    rw [List.forIn_cons]
    cases hk : k == NameKind.free with
    | true =>
      have hs : (env.cells.lookup n).isSome = true := by
        have q := h'.1
        have : (k != NameKind.free) = false := by simp [bne, hk]
        rw [this, Bool.false_or] at q; exact q
      obtain ⟨a, ha⟩ := Option.isSome_iff_exists.mp hs
      simp only [if_true, cellOf, ha]
      have q := closureFor_go (env := env) r ((n, a) :: acc) h'.2
      have z : closeOver env.cells ((n, k) :: r) acc = closeOver env.cells r ((n, a) :: acc) := by simp only [closeOver, hk, if_true, ha, Option.getD_some]
      rw [z, ← q]; rfl
    | false =>
      simp only [Bool.false_eq_true, if_false]
      have q := closureFor_go (env := env) r acc h'.2
      have z : closeOver env.cells ((n, k) :: r) acc = closeOver env.cells r acc := by simp only [closeOver, hk, Bool.false_eq_true, if_false]
      rw [z, ← q]; rfl
theorem closureFor_eq {scope : Scope} {env : Env} (h : closed env.cells scope.names = true) : closureFor scope env = pure (closeOver env.cells scope.names []) := by
  unfold closureFor
  have := closureFor_go (env := env) scope.names [] h
  simp only [bind_pure_comp] at this ⊢
  first
    | (rw [this]; rfl)
    | (show (do let cs ← forIn scope.names [] _; pure cs) = _; rw [this]; rfl)
theorem q_newEnv {M : Model} {A : Around} {E : Value → Shared → Prop} {s : Shared} {h : Heap} {t : Nat} {scope : Scope} {globals : Addr} {cl : List (Str × Addr)} {qual : Str} {env : Env} {Q : Env → Shared → Prop}
    (k : Q (newEnv scope h.objs.size globals (cellsFrom (h.objs.size + 1) scope.names cl) qual none .none (some env) builtinsNs) (sh s (pushCells (h.push { cls := .type "dict", data := .dict #[] }) scope.names) t)) :
    wpAny M A (newFunctionEnv scope globals cl [] qual none .none (some env)) Q E (sh s h t) := by
  simp only [newFunctionEnv, Option.isSome_some, if_true]
  refine wpAny_bind (wpAny_alloc ?_)
  refine wpAny_bind (wpAny_layCells _ (fun name kind cells => by cases hkc : kind == NameKind.cell <;> simp [hkc]) _ _ _ _ ?_)
  show wpAny M A (do pure _) Q E _
  refine wpAny_pure ?_
  have e : (h.push { cls := .type "dict", data := .dict #[] }).objs.size = h.objs.size + 1 := Heap.size_push ..
  show Q (newEnv scope h.objs.size globals (cellsFrom (h.push { cls := .type "dict", data := .dict #[] }).objs.size scope.names cl) qual none .none (some env) builtinsNs) _
  rw [e]; exact k
/-- what a comprehension's source hands out -/
def Src (prog : Program) (w : World) (A : Around) (xv : Value) (h₁ : Heap) (n : Nat) (P : Nat → Value → Prop) : Prop :=
  ∃ (o : Obj) (J : Nat → Heap → Prop) (fp : List Addr), o.isFreed = false ∧
    (∀ (Q : Value → Shared → Prop) (E : Value → Shared → Prop) (s : Shared) (t : Nat), Q (.ref h₁.objs.size) (sh s (h₁.push o) t) → wpAny (model prog w) A (pyIter xv) Q E (sh s h₁ t)) ∧
    Walks prog w A h₁.objs.size (h₁.objs.size :: fp) [h₁.objs.size] n P J ∧ Live (h₁.objs.size :: fp) J ∧ J 0 (h₁.push o) ∧ ∀ b ∈ fp, ∃ o, h₁.get? b = some o
theorem Src.list {prog : Program} {w : World} {A : Around} {h₁ : Heap} {l : Addr} {items : Array Value} (hA : A.handled = none) (hl : h₁.IsList l items) : Src prog w A (.ref l) h₁ items.size (fun i v => items[i]? = some v) := by
  have lne : l ≠ h₁.objs.size := by obtain ⟨o, ho, _⟩ := hl; exact Nat.ne_of_lt (Heap.lt_size ho)
  refine ⟨_, _, [l], ?_, fun Q E s t k => wpAny_pyIter_list hl k, Walks.list hA h₁.objs.size l lne items, ?_, ⟨⟨_, Heap.get?_push_size _ rfl, rfl, rfl⟩, hl.push _⟩, ?_⟩
  · rfl
  · intro i h' hJ b hb
    rcases List.mem_cons.mp hb with rfl | hb
    · exact ⟨_, hJ.1.choose_spec.1⟩
    · rw [List.mem_singleton] at hb
      subst hb
      exact ⟨_, hJ.2.choose_spec.1⟩
  · intro b hb
    rw [List.mem_singleton] at hb
    subst hb
    exact ⟨_, hl.choose_spec.1⟩
theorem Src.range {prog : Program} {w : World} {A : Around} {h₁ : Heap} {r : Addr} {a b : Int} {p q o : Tok} (n : Nat) (hA : A.handled = none) (hr : IsRange h₁ r a b 1 p q o) (hn : Builtin.Range.rangeSize a b 1 = (n : Int)) (hsm : Builtin.Range.small a b 1 = true) :
    Src prog w A (.ref r) h₁ n (fun i v => ∃ u, v = .int (a + i) u) := by
  have W := Walks.range (prog := prog) (w := w) hA h₁.objs.size a 1 n
  refine ⟨{ cls := .type "range_iterator", data := .fields #[rawInt a, rawInt (Builtin.Range.rangeSize a b 1), rawInt 1] }, _, [], rfl, fun Q E s t k => wpAny_pyIter_range hr hsm k, ⟨W.sub, W.frame, fun i s Q E hi hJ k => W.item i s Q E hi hJ (fun v h' tk hP => k v h' tk ?_), W.done, W.self⟩, ?_, ?_, fun b hb => (nomatch hb)⟩
  · obtain ⟨u, rfl⟩ := hP
    exact ⟨u, by rw [Int.mul_one]⟩
  · intro i h' hJ b hb
    rw [List.mem_singleton] at hb
    subst hb
    exact ⟨_, hJ⟩
  · have := Heap.get?_push_size h₁ (o := { cls := .type "range_iterator", data := .fields #[rawInt a, rawInt (Builtin.Range.rangeSize a b 1), rawInt 1] }) rfl
    unfold IsRangeIter
    rw [hn]
    rw [hn] at this
    simpa using this
abbrev listObj (ys : List Value) (ep : Nat) : Obj := { cls := .type "list", data := .seq ys.toArray ep }
abbrev Made (h h' : Heap) (os : Led) : Prop := ∀ p ∈ os, h'.get? p.1 = some p.2 ∧ h.get? p.1 = none
section
variable {prog : Program} {w : World} {A : Around} {s : Shared} {h₁ : Heap} {cenv : Env}
theorem q_compLoop {R : Result → Shared → Prop} {elt target iter : Expr} {scope : Scope} {pos : Pos} {I D : Addr} {fp : List Addr} {n : Nat} {P : Nat → Value → Prop} {J : Nat → Heap → Prop} {F : Nat → Value → Led → Prop} {h : Heap} {t : Nat}
    (W : Walks prog w A I fp [I] n P J) (hL : Live fp J) (hsz : n ≤ sizeLine) (frOf : Option Value → Locals) (nwOf : Option Value → Led) (ca : List Addr) (hca : ∀ u, (nwOf u).map (·.1) = ca)
    (S : St h₁ cenv h (frOf none) ((D, listObj [] 0) :: nwOf none)) (hJ : J 0 h) (O : Off h₁ cenv ((D, listObj [] 0) :: nwOf none) I fp)
    (hass : ∀ (u : Option Value) (v : Value) (h : Heap) (o : Obj) (t : Nat) (Q' : Unit → Shared → Prop), St h₁ cenv h (frOf u) ((D, o) :: nwOf u) →
      (∀ h' t', St h₁ cenv h' (frOf (some v)) ((D, o) :: nwOf (some v)) → (∀ b ob, b ≠ cenv.locals → b ∉ ca → h.get? b = some ob → h'.get? b = some ob) → Q' () (sh s h' t')) →
      wpAny (model prog w) A (assign target cenv v) Q' (fun _ _ => False) (sh s h t))
    (helt : ∀ j v b₁ h' t', j < n → P j v → Keep h₁ b₁ → St b₁ cenv h' (frOf (some v)) [] → (∀ p ∈ nwOf (some v), b₁.get? p.1 = some p.2) →
      wpAny (model prog w) A (eval elt cenv) (fun y s' => ∃ h'' t'' os, s' = sh s h'' t'' ∧ Keep h' h'' ∧ F j y os ∧ Made h' h'' os) (fun _ _ => False) (sh s h' t'))
    (hR : ∀ h' t' ep (zs : List (Value × Led)) u, St h₁ cenv h' (frOf u) ((D, listObj (zs.map (·.1)) ep) :: nwOf u) → zs.length = n → (∀ j z, zs[j]? = some z → F j z.1 z.2) →
      (∀ z ∈ zs, ∀ p ∈ z.2, h'.get? p.1 = some p.2 ∧ h₁.get? p.1 = none ∧ p.1 ≠ cenv.locals ∧ p.1 ≠ D ∧ p.1 ∉ ca) → R (.ok .next) (sh s h' t'))
    (ht : ∀ v, letOwnedTupleGo target (.ref I) v = pure () := by intro _; rfl) :
    codeAny (model prog w) A (.compLoop (.ListComp elt [⟨target, iter, [], 0⟩] scope pos) 0 (.ref I) (.ref D) cenv) R (sh s h t) := by
  refine codeAny_compLoop_tests (fun k s' => ∃ h t ep, ∃ zs : List (Value × Led), ∃ u, s' = sh s h t ∧ St h₁ cenv h (frOf u) ((D, listObj (zs.map (·.1)) ep) :: nwOf u) ∧ J zs.length h ∧ (∀ j z, zs[j]? = some z → F j z.1 z.2) ∧
    (∀ z ∈ zs, ∀ p ∈ z.2, h.get? p.1 = some p.2 ∧ h₁.get? p.1 = none ∧ p.1 ≠ cenv.locals ∧ p.1 ≠ D ∧ p.1 ∉ ca ∧ p.1 ≠ I) ∧ zs.length ≤ n ∧ k = n + 1 - zs.length) ?_ (n + 1)
    ⟨h, t, 0, [], none, rfl, S, hJ, fun j z e => (by simp at e), fun z hz => (nomatch hz), Nat.zero_le _, rfl⟩ ht
  rintro k s' ⟨h, t, ep, zs, u, rfl, S, hJ, hF, hM, hle, rfl⟩
  have hI1 : I ≠ cenv.locals := O.lo _ O.me
  have hnn : ∀ (u : Option Value) (o : Obj), ∀ b ∈ fp, b ∉ ((D, o) :: nwOf u).map (·.1) := fun u o b hb => by
    have := O.nn b hb
    rw [List.map_cons, hca] at this ⊢
    exact this
  have one : ∀ b, b ∉ [I] ↔ b ≠ I := fun b => by simp
  by_cases hlt : zs.length < n
  · refine W.item zs.length _ _ _ hlt hJ fun v h' t' hP hJ' hk => ?_
    have S' := S.other (h' := h') O.it hI1 (hnn u _ I O.me) fun b o hb e => hk b o ((one b).mpr hb) e
    refine wpAny_mono (hass u v h' _ t' (fun _ s₂ => ∃ h₂ t₂, s₂ = sh s h₂ t₂ ∧ St h₁ cenv h₂ (frOf (some v)) ((D, listObj (zs.map (·.1)) ep) :: nwOf (some v)) ∧ ∀ b ob, b ≠ cenv.locals → b ∉ ca → h'.get? b = some ob → h₂.get? b = some ob) S' fun h₂ t₂ S₂ k₂ => ⟨h₂, t₂, rfl, S₂, k₂⟩) (fun _ s₂ hx => ?_) fun _ _ x => x.elim
    obtain ⟨h₂, t₂, rfl, S₂, k₂⟩ := hx
    refine wpAny_tests_nil ?_
    rw [if_pos rfl]
    obtain ⟨b₁, kb1, kb2, Sb, hb⟩ := (S₂.sub (nw' := []) (List.nil_sublist _)).rebase
    have hfpc : ∀ b ∈ fp, b ∉ ca := fun b hb hm => hnn u (listObj [] 0) b hb (by rw [List.map_cons, hca]; exact List.mem_cons_of_mem _ hm)
    have hJ₂ : J (zs.length + 1) h₂ := W.frame _ _ _ hJ' fun b hb o e => k₂ b o (O.lo b hb) (hfpc b hb) e
    refine wpAny_mono (helt zs.length v b₁ h₂ t₂ hlt hP kb1 Sb fun p hp => ?_) (fun y s₄ hx => ?_) fun _ _ x => x.elim
    · have hm : p ∈ (D, listObj (zs.map (·.1)) ep) :: nwOf (some v) := List.mem_cons_of_mem _ hp
      exact hb _ _ (S₂.new p hm).1 (S₂.ne (o := p.2) hm) (fun q => (nomatch q))
    · obtain ⟨h₄, t₄, os, rfl, k₄, hFy, hMos⟩ := hx
      have S₄ := S₂.keeps k₄
      have hD₄ : h₄.PlainList D (zs.map (·.1)).toArray := ⟨ep, (S₄.new _ List.mem_cons_self).1⟩
      have hlen : (zs.map (·.1)).toArray.size ≤ sizeLine := by simp; omega
      refine wpAny_list_append_plain (hsz := hlen) hD₄ fun h₅ hl₅ hs₅ => ?_
      obtain ⟨ep₅, e₅⟩ := hl₅
      have e₅' : h₅.get? D = some (listObj ((zs ++ [(y, os)]).map (·.1)) ep₅) := by rw [e₅]; simp [listObj]
      have S₅ : St h₁ cenv h₅ (frOf (some v)) ((D, listObj ((zs ++ [(y, os)]).map (·.1)) ep₅) :: nwOf (some v)) := S₄.turn Turn.here hs₅ e₅'
      have hID : I ≠ D := fun e => hnn u (listObj [] 0) I O.me (by rw [e]; exact List.mem_cons_self)
      refine ⟨n + 1 - (zs.length + 1), by omega, h₅, t₄, ep₅, zs ++ [(y, os)], some v, rfl, S₅, ?_, ?_, ?_, by rw [List.length_append, List.length_singleton]; exact hlt, by rw [List.length_append, List.length_singleton]⟩
      · rw [List.length_append, List.length_singleton]
        refine W.frame _ _ _ hJ₂ fun b hb o e => hs₅.extBut b o (fun z => hnn u (listObj [] 0) b hb (by rw [z]; exact List.mem_cons_self)) (k₄ b o e)
      · intro j z hz
        rcases Nat.lt_trichotomy j zs.length with q | q | q
        · exact hF j z (by rwa [List.getElem?_append_left q] at hz)
        · subst q; simp at hz; subst hz; exact hFy
        · have : (zs ++ [(y, os)])[j]? = none := List.getElem?_eq_none (by rw [List.length_append, List.length_singleton]; omega)
          rw [this] at hz; cases hz
      · intro z hz p hp
        rcases List.mem_append.mp hz with hz | hz
        · obtain ⟨a1, a2, a3, a4, a5, a6⟩ := hM z hz p hp
          exact ⟨hs₅.extBut _ _ a4 (k₄ _ _ (k₂ _ _ a3 a5 (hk _ _ ((one _).mpr a6) a1))), a2, a3, a4, a5, a6⟩
        · rw [List.mem_singleton] at hz
          subst hz
          obtain ⟨a1, a2⟩ := hMos p hp
          have ne : ∀ b, (∃ o, h₂.get? b = some o) → p.1 ≠ b := fun b ⟨o, ho⟩ z => by rw [z, ho] at a2; cases a2
          have nD : p.1 ≠ D := ne D ⟨_, (S₂.new _ List.mem_cons_self).1⟩
          refine ⟨hs₅.extBut _ _ nD a1, ?_, ne _ S₂.nsAt, nD, fun hm => ?_, ne I ?_⟩
          · cases q : h₁.get? p.1 with
            | none => rfl
            | some o => exact absurd rfl (ne p.1 ⟨o, S₂.keep _ _ q⟩)
          · have : p.1 ∈ (nwOf (some v)).map (·.1) := by rw [hca]; exact hm
            obtain ⟨r, hr, er⟩ := List.mem_map.mp this
            exact ne r.1 ⟨_, (S₂.new r (List.mem_cons_of_mem _ hr)).1⟩ er.symm
          · exact hL _ _ hJ₂ I O.me
  · have hin : zs.length = n := by omega
    refine W.done _ _ _ (hin ▸ hJ) fun h' t' hk => ?_
    have S' := S.other (h' := h') O.it hI1 (hnn u _ I O.me) fun b o hb e => hk b o ((one b).mpr hb) e
    refine hR h' t' ep zs u S' hin hF fun z hz p hp => ?_
    obtain ⟨a1, a2, a3, a4, a5, a6⟩ := hM z hz p hp
    exact ⟨hk _ _ ((one _).mpr a6) a1, a2, a3, a4, a5⟩
end
end
section
open PySem PySem.W PySem.Spec PySem.Calls PyProof.Rows
set_option maxRecDepth 100000
set_option maxHeartbeats 4000000
theorem none_of_ge {h : Heap} {a : Addr} (ha : h.objs.size ≤ a) : h.get? a = none := by
  cases e : h.get? a with
  | none => rfl
  | some o => exact absurd (Heap.lt_size e) (Nat.not_lt.mpr ha)
def okComp (scope : Scope) : Bool := scope.kind == .function && scope.names.all (fun y => y.2 != .local || scope.names.lookup y.1 == some .local)
theorem cenv_is {env : Env} {oscope scope : Scope} {ocells cells : List (Str × Addr)} {C : Addr} {b : Addr} (e : EnvIs env oscope ocells) :
    EnvIs { (newEnv scope C env.globals cells env.qual none .none (some env) b) with scope := relabel scope env } scope cells := by
  refine ⟨fun x k hk hf => ?_, fun x hk => ?_, e.gl, e.bu, rfl⟩
  · show (relabel scope env).names.lookup x = some k
    unfold relabel
    dsimp only
    rw [lookup_relabel, hk]
    show some (relK env x k) = some k
    have : (k == NameKind.free) = false := by simpa using hf
    unfold relK
    rw [this]; rfl
  · show (relabel scope env).names.lookup x = some NameKind.free ∨ (relabel scope env).names.lookup x = some NameKind.cell
    unfold relabel
    dsimp only
    rw [lookup_relabel, hk]
    show some (relK env x .free) = _ ∨ some (relK env x .free) = _
    unfold relK
    split
    · exact .inr rfl
    · exact .inl rfl
section
variable {prog : Program} {w : World} {A : Around} {E : Value → Shared → Prop} {s : Shared} {h : Heap} {t : Nat} {env : Env} {oscope : Scope} {ocells : List (Str × Addr)}
/-- what a comprehension asks, from its source on: x a name of its own -/
def CompL (prog : Program) (w : World) (A : Around) (s : Shared) (elt : Expr) (x : Str) (scope : Scope) (cl : List (Str × Addr)) (xv : Value) (s₁ : Shared) (K : Heap → Nat → Addr → Heap → Nat → Prop) : Prop :=
  ∃ h₁ t₁ n P, ∃ F : Nat → Value → Led → Prop, s₁ = sh s h₁ t₁ ∧ Src prog w A xv h₁ n P ∧ n ≤ sizeLine ∧
    (∀ j v b₁ h' cenv t', EnvIs cenv scope cl → j < n → P j v → Keep h₁ b₁ → St b₁ cenv h' [(x, some v)] [] →
      wpAny (model prog w) A (eval elt cenv) (fun y s' => ∃ h'' t'' os, s' = sh s h'' t'' ∧ Keep h' h'' ∧ F j y os ∧ Made h' h'' os) (fun _ _ => False) (sh s h' t')) ∧
    ∀ D h' t' ep, ∀ zs : List (Value × Led), Keep h₁ h' → h₁.get? D = none → h'.get? D = some (listObj (zs.map (·.1)) ep) → zs.length = n → (∀ j z, zs[j]? = some z → F j z.1 z.2) →
      (∀ z ∈ zs, Made h₁ h' z.2) → K h₁ t₁ D h' t'
theorem compL_core {elt iter : Expr} {x : Str} {px : Pos} {scope : Scope} {pos : Pos} {RR : Value → Addr → Result → Shared → Prop} {h₁ : Heap} {t₁ : Nat} {xv : Value} {n : Nat} {P : Nat → Value → Prop} {F : Nat → Value → Led → Prop}
    {E : Value → Shared → Prop} (e : EnvIs env oscope ocells) (hc : okComp scope = true) (hx : scope.names.lookup x = some .local) (hd : (x == ("__debug__" : Str)) = false) (hcell : ∀ y ∈ scope.names, y.2 ≠ .cell) (cl : List (Str × Addr))
    (hsrc : Src prog w A xv h₁ n P) (hsz : n ≤ sizeLine)
    (helt : ∀ j v b₁ h' cenv t', EnvIs cenv scope cl → j < n → P j v → Keep h₁ b₁ → St b₁ cenv h' [(x, some v)] [] →
      wpAny (model prog w) A (eval elt cenv) (fun y s' => ∃ h'' t'' os, s' = sh s h'' t'' ∧ Keep h' h'' ∧ F j y os ∧ Made h' h'' os) (fun _ _ => False) (sh s h' t'))
    (hRR : ∀ D C h' t' ep, ∀ zs : List (Value × Led), ∀ m, h'.Ns C m → h₁.get? C = none → D ≠ C → Keep h₁ h' → h₁.get? D = none → h'.get? D = some (listObj (zs.map (·.1)) ep) → zs.length = n → (∀ j z, zs[j]? = some z → F j z.1 z.2) →
      (∀ z ∈ zs, ∀ p ∈ z.2, h'.get? p.1 = some p.2 ∧ h₁.get? p.1 = none ∧ p.1 ≠ C) → RR (.ref D) C (.ok .next) (sh s h' t')) :
    wpAny (model prog w) A (pyIter xv) (fun it s₂ => wpAny (model prog w) A (newList []) (fun acc s₃ => wpAny (model prog w) A (newFunctionEnv scope env.globals cl [] env.qual none .none (some env)) (fun cenv s₄ =>
      codeAny (model prog w) A (.compStart (.ListComp elt [⟨.Name x px, iter, [], 0⟩] scope pos) 0 it acc { cenv with scope := relabel scope env }) (RR acc cenv.locals) s₄) E s₃) E s₂) E (sh s h₁ t₁) := by
  simp only [okComp, Bool.and_eq_true, beq_iff_eq, List.all_eq_true, Bool.or_eq_true, bne_iff_ne, ne_eq] at hc
  obtain ⟨o, J, fp, hof, hit, W, hL, hJ, hfp⟩ := hsrc
  refine hit _ _ _ _ ?_
  refine wpAny_newObj_type (q_newEnv ?_)
  have hcf : ∀ (names : List (Str × NameKind)), (∀ y ∈ names, y.2 ≠ .cell) → (∀ n acc, cellsFrom n names acc = acc) ∧ ∀ h, pushCells h names = h := by
    intro names
    induction names with
    | nil => exact fun _ => ⟨fun _ _ => rfl, fun _ => rfl⟩
    | cons y r ih =>
      intro hy
      obtain ⟨nm, kd⟩ := y
      have hk : (kd == NameKind.cell) = false := by simpa using hy _ List.mem_cons_self
      have ih' := ih fun z hz => hy z (List.mem_cons_of_mem _ hz)
      refine ⟨fun n acc => ?_, fun h => ?_⟩
      · unfold cellsFrom; rw [hk]; exact ih'.1 n acc
      · unfold pushCells; rw [hk]; exact ih'.2 h
  dsimp only
  rw [(hcf _ hcell).1, (hcf _ hcell).2]
  generalize hHA : h₁.push o = HA
  generalize hHB : HA.push { cls := .type "list", data := .seq ([] : List Value).toArray } = HB
  have szA : HA.objs.size = h₁.objs.size + 1 := by rw [← hHA, Heap.size_push]
  have szB : HB.objs.size = HA.objs.size + 1 := by rw [← hHB, Heap.size_push]
  have kA : Keep h₁ HA := hHA ▸ Keep.push h₁ o
  have kB : Keep HA HB := hHB ▸ Keep.push HA _
  have kC := Keep.push HB { cls := .type "dict", data := .dict #[] }
  have gD : HB.get? HA.objs.size = some (listObj [] 0) := hHB ▸ Heap.get?_push_size HA rfl
  have C0 := cenv_is (scope := scope) (cells := cl) (C := HB.objs.size) (b := builtinsNs) e
  generalize hce : ({ (newEnv scope HB.objs.size env.globals cl env.qual none .none (some env) builtinsNs) with scope := relabel scope env } : Env) = cenv at C0
  have hcl : cenv.locals = HB.objs.size := by rw [← hce]; rfl
  have S0 : St h₁ cenv (HB.push { cls := .type "dict", data := .dict #[] }) [(x, none)] [(HA.objs.size, listObj [] 0)] := by
    refine ⟨?_, ⟨fun _ => none, by rw [hcl]; exact Heap.Ns.new HB (.type "dict"), ?_⟩, ?_, ?_, (kA.trans kB).trans kC, ?_, ?_, ?_⟩
    · rw [← hce]; exact hc.1
    · intro p hp; rw [List.mem_singleton] at hp; subst hp; rfl
    · simp
    · intro p hp; rw [List.mem_singleton] at hp; subst hp
      exact ⟨C0.kd _ _ hx (by decide), hd⟩
    · rw [hcl]; exact none_of_ge (by omega)
    · intro p hp; rw [List.mem_singleton] at hp; subst hp
      exact ⟨kC _ _ gD, none_of_ge (by omega)⟩
    · rw [hcl]
      refine List.nodup_cons.mpr ⟨fun hm => ?_, List.nodup_cons.mpr ⟨fun hm => (nomatch hm), List.nodup_nil⟩⟩
      have : HB.objs.size = HA.objs.size := List.mem_singleton.mp hm
      omega
  have Off0 : Off h₁ cenv [(HA.objs.size, listObj [] 0)] h₁.objs.size (h₁.objs.size :: fp) := by
    have lt : ∀ b : Nat, b ∈ h₁.objs.size :: fp → b < HA.objs.size := fun b hb => by
      rcases List.mem_cons.mp hb with rfl | hb
      · omega
      · obtain ⟨ob, hob⟩ := hfp b hb; have : (b : Nat) < h₁.objs.size := Heap.lt_size hob; omega
    refine ⟨none_of_ge (Nat.le_refl _), List.mem_cons_self, fun b hb z => ?_, fun b hb hm => ?_⟩
    · have := lt b hb; rw [z, hcl] at this; omega
    · have h2 : (b : Nat) = HA.objs.size := List.mem_singleton.mp hm
      have : (b : Nat) < HA.objs.size := lt b hb
      rw [h2] at this; exact Nat.lt_irrefl _ this
  have hJ0 : J 0 (HB.push { cls := .type "dict", data := .dict #[] }) := W.frame _ _ _ (hHA ▸ hJ) fun b _ ob eb => kC _ _ (kB _ _ eb)
  have loop : ∀ t', codeAny (model prog w) A (.compLoop (.ListComp elt [⟨.Name x px, iter, [], 0⟩] scope pos) 0 (.ref h₁.objs.size) (.ref HA.objs.size) cenv) (RR (.ref HA.objs.size) HB.objs.size)
      (sh s (HB.push { cls := .type "dict", data := .dict #[] }) t') := by
    intro t'
    refine q_compLoop (F := F) W hL hsz (fun u => [(x, u)]) (fun _ => []) [] (fun _ => rfl) S0 hJ0 Off0 ?_ ?_ ?_
    · intro u v h o t Q' S k
      refine wpAny_assign_Name ?_
      obtain ⟨m, hn, hm⟩ := S.ns
      have hp : Put [(x, u)] x v [(x, some v)] := Put.here
      refine wpAny_storeName_local (S.kd _ List.mem_cons_self).1 hn (fun h' hn' hs' => k h' _ (S.store hp hm hn' hs') fun b ob hb _ eb => hs'.extBut b ob hb eb) (by rw [S.fn]; rfl)
    · intro j v b₁ h' t' hj hP k S _
      exact helt j v b₁ h' cenv t' C0 hj hP k S
    · intro h' t' ep zs u S hlen hF hM
      obtain ⟨m, hn, _⟩ := S.ns
      rw [hcl] at hn
      refine hRR HA.objs.size HB.objs.size h' t' ep zs m hn (none_of_ge (by omega)) (Nat.ne_of_lt (by omega)) S.keep (none_of_ge (by omega)) (S.new _ List.mem_cons_self).1 hlen hF fun z hz p hp => ?_
      obtain ⟨a1, a2, a3, _⟩ := hM z hz p hp
      exact ⟨a1, a2, by rw [← hcl]; exact a3⟩
  show codeAny (model prog w) A (.compStart _ 0 (.ref h₁.objs.size) (.ref HA.objs.size) cenv) (RR (.ref HA.objs.size) HB.objs.size) (sh s (HB.push { cls := .type "dict", data := .dict #[] }) t₁)
  exact codeAny_compStart_list (loop _) (W.self 0 _ _ _ hJ0 (loop _))
theorem q_comp {elt iter : Expr} {x : Str} {px : Pos} {scope : Scope} {pos : Pos} {Q : Value → Shared → Prop} (cl : List (Str × Addr))
    (e : EnvIs env oscope ocells) (hc : okComp scope = true) (hx : scope.names.lookup x = some .local) (hd : (x == ("__debug__" : Str)) = false) (hcell : ∀ y ∈ scope.names, y.2 ≠ .cell)
    (hcl : closed ocells scope.names = true) (hcl' : closeOver ocells scope.names [] = cl)
    (hev : wpAny (model prog w) A (eval iter env) (fun xv s₁ => CompL prog w A s elt x scope cl xv s₁ fun _ _ D h' t' => Q (.ref D) (sh s h' t')) E (sh s h t))
    (hs : ∀ x, foldedSetIterable iter env x = pure x := by intro _; rfl) :
    wpAny (model prog w) A (eval (.ListComp elt [⟨.Name x px, iter, [], 0⟩] scope pos) env) Q E (sh s h t) := by
  have hc' := hc
  simp only [okComp, Bool.and_eq_true, beq_iff_eq, List.all_eq_true, Bool.or_eq_true, bne_iff_ne, ne_eq] at hc'
  rw [eval_ListComp]
  have hclo : closureFor scope env = pure cl := by rw [closureFor_eq (by rw [e.ce]; exact hcl), e.ce, hcl']
  refine wpAny_comprehension_free (use := none) rfl hs hclo hc'.1 (fun y hy hl => (hc'.2 y hy).resolve_left fun q => q hl) (wpAny_mono hev (fun xv s₁ h₁ => ?_) fun _ _ e => e)
  obtain ⟨h₁, t₁, n, P, F, rfl, hsrc, hsz, helt, hfin⟩ := h₁
  refine compL_core (RR := fun acc C => compPost (model prog w) A E none Q acc C) e hc hx hd hcell cl hsrc hsz helt ?_
  intro D C h' t' ep zs m hn hC hDC k hD hlD hlen hF hM
  refine ⟨m, hn, fun h'' hs'' => hfin D h'' t' ep zs (fun b o eb => hs''.extBut b o (by rintro rfl; rw [hC] at eb; cases eb) (k b o eb)) hD ((hs''.2 D hDC).trans hlD) hlen hF fun z hz p hp => ?_⟩
  obtain ⟨a1, a2, a3⟩ := hM z hz p hp
  exact ⟨(hs''.2 _ a3).trans a1, a2⟩
end
end
section
open PySem PySem.W PySem.Spec PySem.Calls PyProof.Rows
set_option maxRecDepth 100000
set_option maxHeartbeats 4000000
section
variable {prog : Program} {w : World} {A : Around} {E : Value → Shared → Prop} {s : Shared} {h h₀ : Heap} {t : Nat} {env : Env} {oscope : Scope} {ocells : List (Str × Addr)} {fr : Locals} {nw : Led}
/-- y = [.. for x in ..], y a local: the store comes ahead of the names' going -/
theorem q_asComp {elt iter : Expr} {x y : Str} {px py : Pos} {scope : Scope} {pos spos : Pos} {Q : Flow → Shared → Prop} (cl : List (Str × Addr)) (fr' : Addr → Locals)
    (hsw : swapsWith (.ListComp elt [⟨.Name x px, iter, [], 0⟩] scope pos) (some (.Name y py)) spos.line env = pure true)
    (e : EnvIs env oscope ocells) (hc : okComp scope = true) (hx : scope.names.lookup x = some .local) (hd : (x == ("__debug__" : Str)) = false) (hcell : ∀ y ∈ scope.names, y.2 ≠ .cell)
    (hcl : closed ocells scope.names = true) (hcl' : closeOver ocells scope.names [] = cl) (hp : ∀ D, Put fr y (.ref D) (fr' D))
    (hev : wpAny (model prog w) A (eval iter env) (fun xv s₁ => ∃ h₁ t₁ n P, ∃ F : Nat → Value → Led → Prop, s₁ = sh s h₁ t₁ ∧ St h₀ env h₁ fr nw ∧ Src prog w A xv h₁ n P ∧ n ≤ sizeLine ∧
      (∀ j v b₁ h' cenv t', EnvIs cenv scope cl → j < n → P j v → Keep h₁ b₁ → St b₁ cenv h' [(x, some v)] [] →
        wpAny (model prog w) A (eval elt cenv) (fun y s' => ∃ h'' t'' os, s' = sh s h'' t'' ∧ Keep h' h'' ∧ F j y os ∧ Made h' h'' os) (fun _ _ => False) (sh s h' t')) ∧
      ∀ D h' t' ep, ∀ zs : List (Value × Led), St h₀ env h' (fr' D) nw → (∀ b o, b ≠ env.locals → h₁.get? b = some o → h'.get? b = some o) → h₁.get? D = none → D ≠ env.locals → h'.get? D = some (listObj (zs.map (·.1)) ep) → zs.length = n → (∀ j z, zs[j]? = some z → F j z.1 z.2) →
        (∀ z ∈ zs, Made h₁ h' z.2) → Q .next (sh s h' t')) E (sh s h t))
    (hs : ∀ x, foldedSetIterable iter env x = pure x := by intro _; rfl) :
    wpAny (model prog w) A (exec (.Assign [.Name y py] (.ListComp elt [⟨.Name x px, iter, [], 0⟩] scope pos) spos) env) Q E (sh s h t) := by
  have hc' := hc
  simp only [okComp, Bool.and_eq_true, beq_iff_eq, List.all_eq_true, Bool.or_eq_true, bne_iff_ne, ne_eq] at hc'
  rw [exec_Assign_Name_used _ _ _ _ hsw]
  refine wpAny_bind (wpAny_standAt (wpAny_bind ?_))
  show wpAny _ A (do let _ ← comprehension (.ListComp elt [⟨.Name x px, iter, [], 0⟩] scope pos) scope env _ (newList []) false (eval iter env) (some (assign (.Name y py) env))) _ _ (sh s h t)
  have hclo : closureFor scope env = pure cl := by rw [closureFor_eq (by rw [e.ce]; exact hcl), e.ce, hcl']
  refine wpAny_bind (wpAny_mono (wpAny_comprehension_free (use := some (assign (.Name y py) env)) (Q := fun _ s' => Q .next s') rfl hs hclo hc'.1 (fun y hy hl => (hc'.2 y hy).resolve_left fun q => q hl)
    (wpAny_mono hev (fun xv s₁ h₁ => ?_) fun _ _ e => e)) (fun _ s' hq => wpAny_pure (wpAny_pure hq)) fun _ _ e => e)
  obtain ⟨h₁, t₁, n, P, F, rfl, S, hsrc, hsz, helt, hfin⟩ := h₁
  refine compL_core (RR := fun acc C => compPost (model prog w) A E (some (assign (.Name y py) env)) (fun _ s' => Q .next s') acc C) e hc hx hd hcell cl hsrc hsz helt ?_
  intro D C h' t' ep zs m hn hC hDC k hD hlD hlen hF hM
  show wpAny _ A (assign (.Name y py) env (.ref D)) _ _ _
  have S' := S.keeps k
  obtain ⟨oL, hL⟩ := S.nsAt
  have hLC : env.locals ≠ C := fun z => by rw [z, hC] at hL; cases hL
  have hDL : D ≠ env.locals := fun z => by rw [← z, hD] at hL; cases hL
  obtain ⟨m₂, hn₂, hm₂⟩ := S'.ns
  obtain ⟨u, hu⟩ := (hp D).old
  refine wpAny_assign_Name (wpAny_storeName_local (S'.kd _ hu).1 hn₂ (fun h₂ hn' hs' => ?_) (by rw [S'.fn]; rfl))
  have S₂ := S'.store (hp D) hm₂ hn' hs'
  refine ⟨m, hn.sameBut hs' (Ne.symm hLC), fun h₃ hs₃ => ?_⟩
  have nC : ∀ p ∈ nw, p.1 ≠ C := fun p hpn z => by have := (S.new p hpn).1; rw [z, hC] at this; cases this
  have hC0 : h₀.get? C = none := by
    cases q : h₀.get? C with
    | none => rfl
    | some o => rw [S.keep _ _ q] at hC; cases hC
  have S₃ := S₂.other (h' := h₃) hC0 (Ne.symm hLC) (fun hm => by obtain ⟨p, hpn, z⟩ := List.mem_map.mp hm; exact nC p hpn z) fun b o hb eb => hs₃.extBut b o hb eb
  refine hfin D h₃ _ ep zs S₃ (fun b o hb eb => hs₃.extBut b o (by rintro rfl; rw [hC] at eb; cases eb) (hs'.extBut b o hb (k b o eb))) hD hDL ?_ hlen hF fun z hz p hpz => ?_
  · exact (hs₃.2 D hDC).trans ((hs'.2 D hDL).trans hlD)
  · obtain ⟨a1, a2, a3⟩ := hM z hz p hpz
    exact ⟨(hs₃.2 _ a3).trans ((hs'.2 _ (fun z => by rw [z, hL] at a2; cases a2)).trans a1), a2⟩
end
end
section
open PySem PySem.W PySem.Spec PySem.Calls PyProof.Rows
set_option maxRecDepth 100000
set_option maxHeartbeats 4000000
theorem lk {h h' : Heap} {a : Addr} {its : Array Value} (x : h.IsList a its) (k : Keep h h') : h'.IsList a its := let ⟨o, ho, r⟩ := x; ⟨o, k a o ho, r⟩
theorem plainList_of {h : Heap} {a : Addr} {vs : List Value} {ep : Nat} (e : h.get? a = some (listObj vs ep)) : h.PlainList a vs.toArray := ⟨ep, e⟩
theorem isList_of {h : Heap} {a : Addr} {vs : List Value} {ep : Nat} (e : h.get? a = some (listObj vs ep)) : h.IsList a vs.toArray := (plainList_of e).isList
theorem plainL_of {h : Heap} {a : Addr} {vs : List Value} {ep : Nat} (e : h.get? a = some (listObj vs ep)) : PlainL h a vs.toArray := ⟨_, ep, e, rfl, rfl, rfl⟩
theorem IntsAre_snoc {vs : List Value} {ns : List Int} (h : IntsAre vs ns) (n : Int) (t : Tok) : IntsAre (vs ++ [.int n t]) (ns ++ [n]) := by
  induction h with
  | nil => exact .cons n t .nil
  | cons m u _ ih => exact .cons m u ih
theorem IntsAre_set {vs : List Value} {ns : List Int} (h : IntsAre vs ns) : ∀ (j : Nat) (n : Int) (u : Tok), IntsAre (vs.set j (.int n u)) (ns.set j n) := by
  induction h with
  | nil => intro j n u; exact .nil
  | cons m v hr ih =>
    intro j n u
    cases j with
    | zero => exact .cons n u hr
    | succ j => exact .cons m v (ih j n u)
theorem getElem?_getD {l : List Int} {j : Nat} (h : j < l.length) : l[j]? = some (l.getD j 0) := by
  rw [List.getElem?_eq_getElem h]; simp [List.getD, h]
theorem intsAre_of : ∀ (l : List (Value × Led)) (ns : List Int), l.length = ns.length → (∀ (j : Nat) (y : Value × Led) (n : Int), l[j]? = some y → ns[j]? = some n → ∃ u, y.1 = Value.int n u) → IntsAre (l.map (·.1)) ns
  | [], [], _, _ => .nil
  | [], _ :: _, h, _ => nomatch h
  | _ :: _, [], h, _ => nomatch h
  | y :: r, n :: ns, h, hl => by
    obtain ⟨u, hu⟩ := hl 0 y n rfl rfl
    rw [List.map_cons, hu]
    exact .cons n u (intsAre_of r ns (by simpa using h) fun j y' n' e1 e2 => hl (j + 1) y' n' (by simpa using e1) (by simpa using e2))
theorem IntsAre_get {vs : List Value} {ns : List Int} (h : IntsAre vs ns) : ∀ {j : Nat} {n : Int}, ns[j]? = some n → ∃ t, vs[j]? = some (.int n t) := by
  induction h with
  | nil => intro j n e; simp at e
  | cons m u _ ih =>
    intro j n e
    cases j with
    | zero => simp at e; subst e; exact ⟨u, by simp⟩
    | succ j => simp at e; obtain ⟨t, ht⟩ := ih e; exact ⟨t, by simpa using ht⟩
section
variable {prog : Program} {w : World} {A : Around} {E : Value → Shared → Prop} {s : Shared} {t : Nat} {h h₀ : Heap} {env : Env} {Q : Value → Shared → Prop} {fr : Locals} {nw nw' : Led}
theorem St.quiet (S : St h₀ env h fr nw) : interactive env = false := by unfold interactive; rw [S.fn]; rfl
theorem q_expr {e : Expr} {pos : Pos} {Q : Flow → Shared → Prop} (S : St h₀ env h fr nw) (k : wpAny (model prog w) A (eval e env) (fun _ => Q .next) E s) (hs : swapsWith e none pos.line env = pure false := by rfl) : wpAny (model prog w) A (exec (.Expr e pos) env) Q E s :=
  wpAny_Expr_any k S.quiet hs
theorem q_eqs {x y : Str} {p q : Tok} (k : Q (.bool (x == y)) (sh s h t)) : wpAny (model prog w) A (compareOp .Eq (.str x p) (.str y q)) Q E (sh s h t) := PyProof.Rows.eq_str k
theorem q_crange1 {n : Int} {p : Tok} (k : ∀ r h' t' a b c, Keep h h' → h.get? r = none → IsRange h' r 0 n 1 a b c → Q (.ref r) (sh s h' t')) : wpAny (model prog w) A (call (.type "range") [.int n p]) Q E (sh s h t) :=
  call_range_1 (k _ _ _ _ _ _ (Keep.push h _) (none_of_ge (Nat.le_refl _)) (IsRange.new ..))
theorem q_crange2 {a b : Int} {p q : Tok} (k : ∀ r h' t' a' b' c', Keep h h' → h.get? r = none → IsRange h' r a b 1 a' b' c' → Q (.ref r) (sh s h' t')) : wpAny (model prog w) A (call (.type "range") [.int a p, .int b q]) Q E (sh s h t) :=
  call_range_2 (k _ _ _ _ _ _ (Keep.push h _) (none_of_ge (Nat.le_refl _)) (IsRange.new ..))
theorem q_newList {vs : List Value} (S : St h₀ env h fr nw) (hsz : vs.length ≤ sizeLine) (k : ∀ l h', St h₀ env h' fr ((l, listObj vs 0) :: nw) → Keep h h' → h.get? l = none → Q (.ref l) (sh s h' t)) : wpAny (model prog w) A (newList vs) Q E (sh s h t) :=
  wpAny_newObj_type (k _ _ (S.push _) (Keep.push h _) (none_of_ge (Nat.le_refl _))) (by show vs.toArray.size ≤ sizeLine; rw [List.size_toArray]; exact hsz)
theorem q_newTuple {vs : List Value} (S : St h₀ env h fr nw) (hsz : vs.length ≤ sizeLine) (k : ∀ l h', St h₀ env h' fr ((l, { cls := .type "tuple", data := .seq vs.toArray }) :: nw) → Keep h h' → h.get? l = none → Q (.ref l) (sh s h' t)) : wpAny (model prog w) A (newTuple vs) Q E (sh s h t) :=
  wpAny_newObj_type (k _ _ (S.push _) (Keep.push h _) (none_of_ge (Nat.le_refl _))) (by show vs.toArray.size ≤ sizeLine; rw [List.size_toArray]; exact hsz)
theorem q_append {l : Addr} {vs : List Value} {ep : Nat} {v : Value} {nwOf : Nat → Led} (S : St h₀ env h fr nw) (hm : (l, listObj vs ep) ∈ nw) (hsz : vs.length ≤ sizeLine) (ht : ∀ ep', Turn nw l (listObj (vs ++ [v]) ep') (nwOf ep'))
    (k : ∀ ep' h', St h₀ env h' fr (nwOf ep') → Q .none (sh s h' t)) : wpAny (model prog w) A (call (.builtin "list.append") [.ref l, v]) Q E (sh s h t) := by
  refine wpAny_list_append_plain (hsz := by simpa using hsz) (plainList_of (S.get hm)) fun h' hl hs => ?_
  obtain ⟨ep', e⟩ := hl
  exact k ep' h' (S.turn (ht ep') hs (by rw [e]; simp [listObj]))
theorem q_item {value slice : Expr} {l : Addr} {items : List Value} {i : Int} {p : Tok} {x : Value} (hl : h.IsList l items.toArray) (h0 : 0 ≤ i) (hhi : i < 2 ^ 63) (hx : items[i.toNat]? = some x) (k : Q x (sh s h t))
    (hs : subscripted slice false (.ref l) (.int i p) = operate [.ref l, .int i p] (getItem (.ref l) (.int i p)) := by with_unfolding_all rfl) : wpAny (model prog w) A (subscriptTail value slice (.ref l) (.int i p)) Q E (sh s h t) :=
  tail_any hl.typeIs slot_list_getitem.lookup (wpAny_getItem_list hl h0 hhi (by simpa using hx) k) hs
theorem q_len_list {l : Addr} {items : List Value} (hl : h.IsList l items.toArray) (hsz : items.length ≤ sizeLine) (k : ∀ u t', Q (.int items.length u) (sh s h t')) : wpAny (model prog w) A (call (.builtin "len") [.ref l]) Q E (sh s h t) :=
  len_list hl (by have : sizeLine < 2 ^ 62 := by decide +kernel
                  simp; omega) (by simpa using k _ _)
end
end
section
open PySem PySem.W PySem.Spec PySem.Calls PyProof.Rows
set_option maxRecDepth 100000
set_option maxHeartbeats 4000000
def signOf (b : Bool) : Str := if b = true then Str.ofString "\t" else Str.ofString " "
def leadGo : Nat → Int → Str → Str
  | 0, _, l => l
  | k + 1, r, l => if r > 1 then leadGo k (r.fdiv 2) (l ++ signOf (r.fmod 2 == 1)) else l
def leadF (n : Int) : Str := leadGo 5 (n.fmod 31 + 1) (Str.ofString "")
theorem leadGo_one (k : Nat) {r : Int} (l : Str) (h : ¬ r > 1) : leadGo k r l = l := by
  cases k with
  | zero => rfl
  | succ k => unfold leadGo; rw [if_neg h]
theorem signOf_len (b : Bool) : (signOf b).length = 1 := by cases b <;> decide +kernel
theorem str_nil_len : (Str.ofString "").length = 0 := by decide +kernel
theorem len_tab : (Str.ofString "\t").length = 1 := by decide +kernel
theorem len_blank : (Str.ofString " ").length = 1 := by decide +kernel
theorem sizeLine_big : 1000 ≤ sizeLine := by decide +kernel
theorem lead_spec {prog : Program} {w : World} {A : Around} {Q E : Value → Shared → Prop} {s : Shared} {h : Heap} {t : Nat} {n : Int} {p : Tok} (R : Rm A 1 3) (G : Gl w h)
    (k : ∀ u h' t', Keep h h' → Q (.str (leadF n) u) (sh s h' t')) : wpAny (model prog w) A (call (.ref 129) [.int n p]) Q E (sh s h t) := by
  refine q_call (d := 0) (u := 0) [Str.ofString "number", Str.ofString "rest", Str.ofString "lead"] [Str.ofString "number"] [(Str.ofString "number", some (.int n p)), (Str.ofString "rest", none), (Str.ofString "lead", none)]
    R G rfl rfl rfl ⟨rfl, rfl, rfl⟩ rfl (by decide +kernel) rfl ?_
  intro env h₁ tk e R' S
  refine wpAny_execs_cons (wpAny_Assign_Name (wpAny_BinOp (wpAny_BinOp (q_ld S (by walk_at "has") (q_cint fun _ _ => q_mod (by decide) fun _ _ => (q_cint fun _ _ => q_add fun _ _ => q_st S (by walk_at "put") fun h₂ _ S₂ => ?_))))))
  refine wpAny_execs_cons (wpAny_Assign_Name (q_cstr fun _ _ => q_st S₂ (by walk_at "put") fun h₃ _ S₃ => ?_))
  have hr0 := Int.fmod_nonneg_of_pos n (b := 31) (by decide)
  have hr1 := Int.fmod_lt_of_pos n (b := 31) (by decide)
  refine wpAny_execs_cons (q_while (fun k s' => ∃ h' t' r l p' q', s' = sh s h' t' ∧ St h env h' [(Str.ofString "number", some (.int n p)), (Str.ofString "rest", some (.int r p')), (Str.ofString "lead", some (.str l q'))] [] ∧
    1 ≤ r ∧ r < 2 ^ k ∧ leadGo k r l = leadF n ∧ l.length + k ≤ 5) ?_ 5 ⟨_, _, _, _, _, _, rfl, S₃, by omega, by omega, rfl, by rw [str_nil_len]; decide⟩)
  rintro k' s' ⟨h', t', r, l, p', q', rfl, S', h1, h2, hl, hlen⟩ K hK
  refine wpAny_isTrue_Compare1 (q_ld S' (by walk_at "has") (q_cint fun _ _ => q_gt (wpAny_truthy_bool ⟨fun hgt => ?_, fun hgt => ?_⟩)))
  · have hgt : r > 1 := of_decide_eq_true hgt
    have hk' : ∃ j, k' = j + 1 := by
      cases k' with
      | zero => exfalso; simp at h2; omega
      | succ j => exact ⟨j, rfl⟩
    obtain ⟨j, rfl⟩ := hk'
    have hstep : leadGo j (r.fdiv 2) (l ++ signOf (r.fmod 2 == 1)) = leadF n := by rw [← hl]; show _ = leadGo (j + 1) r l; rw [leadGo, if_pos hgt]
    have hf : r.fdiv 2 = r / 2 := by rw [Int.fdiv_eq_ediv_of_nonneg]; decide
    have hpow : (2 : Int) ^ (j + 1) = 2 * 2 ^ j := by rw [Int.pow_succ]; omega
    have hfin : ∀ (h'' : Heap) (t'' p'' q'' : Nat), St h env h'' [(Str.ofString "number", some (.int n p)), (Str.ofString "rest", some (.int (r.fdiv 2) p'')), (Str.ofString "lead", some (.str (l ++ signOf (r.fmod 2 == 1)) q''))] [] →
        K (sh s h'' t'') := fun h'' t'' p'' q'' S'' =>
      hK j _ (Nat.lt_succ_self _) ⟨h'', t'', _, _, p'', q'', rfl, S'', by omega, by rw [hf]; omega, hstep, by rw [Str.length_append, signOf_len]; omega⟩
    refine wpAny_execs_cons (wpAny_AugAssign_Name (q_ldn S' (by walk_at "has") (q_ifexp (wpAny_isTrue_Compare1 (wpAny_BinOp (q_ld S' (by walk_at "has") (q_cint fun _ _ => q_mod (by decide) fun _ _ => q_cint fun _ _ => q_eq (wpAny_truthy_bool ⟨fun hb => ?_, fun hb => ?_⟩))))))))
    · refine q_cstr fun _ _ => q_iadds (by have := sizeLine_big; have := len_tab; omega) fun _ _ => q_st S' (by walk_at "put") fun h₅ _ S₅ => ?_
      refine wpAny_execs_cons (wpAny_AugAssign_Name (q_ldn S₅ (by walk_at "has") (q_cint fun _ _ => q_ifdiv (by decide) (noPylong (by decide)) fun _ _ => q_st S₅ (by walk_at "put") fun h₆ _ S₆ => ?_)))
      rw [hb] at hfin
      exact wpAny_execs_nil (hfin _ _ _ _ S₆)
    · refine q_cstr fun _ _ => q_iadds (by have := sizeLine_big; have := len_blank; omega) fun _ _ => q_st S' (by walk_at "put") fun h₅ _ S₅ => ?_
      refine wpAny_execs_cons (wpAny_AugAssign_Name (q_ldn S₅ (by walk_at "has") (q_cint fun _ _ => q_ifdiv (by decide) (noPylong (by decide)) fun _ _ => q_st S₅ (by walk_at "put") fun h₆ _ S₆ => ?_)))
      rw [hb] at hfin
      exact wpAny_execs_nil (hfin _ _ _ _ S₆)
  · have hgt : ¬ r > 1 := of_decide_eq_false hgt
    rw [leadGo_one _ _ hgt] at hl
    subst hl
    exact wpAny_execs_cons (wpAny_Return_some (q_ld S' (by walk_at "has") (k _ _ _ S'.keep)))
end
section
open PySem PySem.W PySem.Spec PySem.Calls PyProof.Rows
set_option maxRecDepth 100000
set_option maxHeartbeats 4000000
theorem lookup_append_one {α : Type} (l : List (Str × α)) (x n : Str) (v : α) : (l ++ [(x, v)]).lookup n = (l.lookup n).or (if n = x then some v else none) := by
  induction l with
  | nil =>
    simp only [List.nil_append, List.lookup_cons, List.lookup_nil, Option.none_or]
    by_cases e : n = x
    · simp [e]
    · have : (n == x) = false := by simpa using e
      simp [this, e]
  | cons p r ih =>
    obtain ⟨y, u⟩ := p
    simp only [List.cons_append, List.lookup_cons]
    cases n == y with
    | true => rfl
    | false => exact ih
theorem bindC_at {kindOf : Str → Option NameKind} {n : Str} (hn : ¬ kindOf n = some .local) : ∀ (binds : List (Str × Value)) (m : Str → Option Value), bindC kindOf binds m n = (binds.reverse.lookup n).or (m n)
  | [], m => rfl
  | (x, v) :: r, m => by
    unfold bindC
    rw [bindC_at hn r, List.reverse_cons, lookup_append_one]
    cases r.reverse.lookup n with
    | some u => rfl
    | none =>
      show (if kindOf x = some .local then m else fun y => if y = x then some v else m y) n = _
      by_cases e : n = x
      · subst e; simp [hn]
      · split <;> simp [e]
theorem bindL_at {kindOf : Str → Option NameKind} {n : Str} (hn : kindOf n = some .local) : ∀ (binds : List (Str × Value)) (m : Str → Option Value), bindL kindOf binds m n = (binds.reverse.lookup n).or (m n)
  | [], m => rfl
  | (x, v) :: r, m => by
    unfold bindL
    rw [bindL_at hn r, List.reverse_cons, lookup_append_one]
    cases r.reverse.lookup n with
    | some u => rfl
    | none =>
      show (if kindOf x = some .local then fun y => if y = x then some v else m y else m) n = _
      by_cases e : n = x
      · subst e; simp [hn]
      · split <;> simp [e]
def okNamesC (scope : Scope) (ns pn : List Str) : Bool :=
  scope.kind == .function && !scope.isCoroutine && !scope.isGenerator &&
  decide ns.Nodup && ns.all (fun x => scope.names.lookup x == some .local && x != ("__debug__" : Str)) && pn.all (fun x => scope.names.lookup x == some .local || (scope.names.lookup x == some .cell && ((cellsFrom 0 scope.names []).lookup x).isSome)) &&
  (cellsFrom 0 scope.names []).all (fun x => scope.names.lookup x.1 == some .cell)
theorem cellsFrom_map (k : Nat) : ∀ (names : List (Str × NameKind)) (n : Nat) (acc : List (Str × Addr)), cellsFrom (n + k) names (acc.map fun x => (x.1, x.2 + k)) = (cellsFrom n names acc).map fun x => (x.1, x.2 + k)
  | [], _, _ => rfl
  | (x, kd) :: r, n, acc => by
    unfold cellsFrom
    split
    · have := cellsFrom_map k r (n + 1) ((x, n) :: acc)
      rw [List.map_cons] at this
      rw [show n + 1 + k = n + k + 1 by omega] at this
      exact this
    · exact cellsFrom_map k r n acc
theorem cellsFrom_at (k : Nat) (names : List (Str × NameKind)) : cellsFrom k names [] = (cellsFrom 0 names []).map fun x => (x.1, x.2 + k) := by
  have := cellsFrom_map k names 0 []
  simpa using this
theorem lookup_map_snd {α β : Type} (f : α → β) (x : Str) : ∀ l : List (Str × α), (l.map fun y => (y.1, f y.2)).lookup x = (l.lookup x).map f
  | [] => rfl
  | (y, a) :: r => by
    simp only [List.map_cons, List.lookup_cons]
    cases x == y with
    | true => rfl
    | false => exact lookup_map_snd f x r
/-- a def some of whose names are captured -/
theorem q_codeC {prog : Program} {w : World} {A : Around} {R : Result → Shared → Prop} {s : Shared} {h : Heap} {t : Nat} {a : Addr} {oc : Value} {od : Option Addr} {osl : Array (Option Value)} {fd : FuncData} {body : List Stmt} {args : List Value}
    (ns pn : List Str) (fr : Locals) (hroom : A.depth < recursionLimit) (G : Gl w h) (hl : (KK w).lookup a = some ⟨oc, od, .func fd, osl⟩) (hb : fd.body = .stmts body) (hc : codeIn (KK w) fd.code fd.qualname = true)
    (hg : fd.globals = mainGlobals ∧ fd.builtins = builtinsNs ∧ fd.closure = [])
    (hbind : bindArgs fd ⟨args, []⟩ = pure (pn.zip args)) (hok : okNamesC fd.scope ns pn = true) (hfr : (ns.map fun x => (x, (pn.zip args).reverse.lookup x)) = fr)
    (k : ∀ env h₁ t', EnvIs env fd.scope ((cellsFrom 0 fd.scope.names []).map fun x => (x.1, x.2 + (h.objs.size + 1))) → env.locals = h.objs.size → St h env h₁ fr [] →
      (∀ n i, (cellsFrom 0 fd.scope.names []).lookup n = some i → h₁.IsCell (i + (h.objs.size + 1)) ((pn.zip args).reverse.lookup n)) →
      wpAny (model prog w) (A.deeper env) (execs body env) (fun f s' => R (.ok (.ret (match f with | .ret v => v | _ => .none))) s') (fun _ _ => False) (sh s h₁ t')) :
    codeAny (model prog w) A (.call (.ref a) ⟨args, []⟩) R (sh s h t) := by
  subst hfr
  simp only [okNamesC, Bool.and_eq_true, beq_iff_eq, Bool.not_eq_true', List.all_eq_true, decide_eq_true_eq, bne_iff_ne, ne_eq, Bool.or_eq_true] at hok
  obtain ⟨⟨⟨⟨⟨⟨hk, hco⟩, hge⟩, hnd⟩, hns⟩, hbn⟩, hcn⟩ := hok
  refine codeAny_call_function hroom (G.kx _ _ hl) rfl hco hge hb (codeRec_of G.kx hc) ?_
  rw [hbind]
  refine wpAny_pure ?_
  rw [hg.2.2]
  have hloc : ∀ x, (cellsFrom (h.objs.size + 1) fd.scope.names []).lookup x = ((cellsFrom 0 fd.scope.names []).lookup x).map (· + (h.objs.size + 1)) := fun x => by
    rw [cellsFrom_at, lookup_map_snd (fun y => y + (h.objs.size + 1))]
  refine wpAny_newFunctionEnv_cells hk (fun x hx => ?_) (fun env henv s' X => ?_)
  · rcases hbn x.1 (List.of_mem_zip hx).1 with q | ⟨q, q'⟩
    · exact .inl q
    · refine .inr ⟨q, ?_⟩
      show ((cellsFrom (h.objs.size + 1) fd.scope.names []).lookup x.1).isSome = true
      rw [hloc]; simpa using q'
  · obtain ⟨h₁, tk, rfl⟩ := X.toInCall.same
    have hL : env.locals = h.objs.size := by rw [henv]; rfl
    have hkind : ∀ x, env.kindOf x = fd.scope.names.lookup x := fun x => by rw [henv]; rfl
    have hns' := X.toInCall.ns
    refine ⟨?_, ?_⟩
    · exact G.lim.keeps X.toInCall.keep
    · refine codeAny_func (wpAny_mono (k env h₁ tk ?_ hL ?_ ?_) (fun _ _ x => x) (fun _ _ x => x.elim))
      · have hce : env.cells = cellsFrom (h.objs.size + 1) fd.scope.names [] := by rw [henv]; rfl
        exact EnvIs.of (by rw [henv]; rfl) (by rw [henv]; exact hg.1) (by rw [henv]; exact hg.2.1) (by rw [hce, cellsFrom_at])
      · refine ⟨by rw [henv]; exact hk, ⟨_, hns', ?_⟩, ?_, ?_, X.toInCall.keep, by rw [hL]; exact none_of_ge (Nat.le_refl _), fun _ hp => (nomatch hp), List.nodup_cons.mpr ⟨fun hp => (nomatch hp), List.nodup_nil⟩⟩
        · intro p hp
          obtain ⟨x, hx, rfl⟩ := List.mem_map.mp hp
          rw [bindL_at (by rw [hkind]; exact (hns x hx).1)]
          simp
        · rw [List.map_map]
          have : ((fun x : Str × Option Value => x.1) ∘ fun x => (x, (pn.zip args).reverse.lookup x)) = id := rfl
          rw [this, List.map_id]; exact hnd
        · intro p hp
          obtain ⟨x, hx, rfl⟩ := List.mem_map.mp hp
          exact ⟨by rw [hkind]; exact (hns x hx).1, by have := (hns x hx).2; simpa using this⟩
      · intro n i hi
        have hce : env.cells.lookup n = some (i + (h.objs.size + 1)) := by
          rw [henv]
          show (cellsFrom (h.objs.size + 1) fd.scope.names []).lookup n = _
          rw [hloc, hi]; rfl
        have := X.cell n _ hce
        rw [bindC_at] at this
        · simpa using this
        · rw [hkind]
          have hm := mem_of_lookup hi
          rw [hcn _ hm]
          decide
theorem q_callC {prog : Program} {w : World} {A : Around} {Q E : Value → Shared → Prop} {s : Shared} {h : Heap} {t : Nat} {a : Addr} {oc : Value} {od : Option Addr} {osl : Array (Option Value)} {fd : FuncData} {body : List Stmt} {args : List Value} {d u : Nat}
    (ns pn : List Str) (fr : Locals) (R : Rm A (d + 1) (u + 3)) (G : Gl w h) (hl : (KK w).lookup a = some ⟨oc, od, .func fd, osl⟩) (hb : fd.body = .stmts body) (hc : codeIn (KK w) fd.code fd.qualname = true)
    (hg : fd.globals = mainGlobals ∧ fd.builtins = builtinsNs ∧ fd.closure = [])
    (hbind : bindArgs fd ⟨args, []⟩ = pure (pn.zip args)) (hok : okNamesC fd.scope ns pn = true) (hfr : (ns.map fun x => (x, (pn.zip args).reverse.lookup x)) = fr)
    (k : ∀ env h₁ t', EnvIs env fd.scope ((cellsFrom 0 fd.scope.names []).map fun x => (x.1, x.2 + (h.objs.size + 1))) → env.locals = h.objs.size → Rm (A.deeper env) d u → St h env h₁ fr [] →
      (∀ n i, (cellsFrom 0 fd.scope.names []).lookup n = some i → h₁.IsCell (i + (h.objs.size + 1)) ((pn.zip args).reverse.lookup n)) →
      wpAny (model prog w) (A.deeper env) (execs body env) (fun f s' => Q (match f with | .ret v => v | _ => .none) s') (fun _ _ => False) (sh s h₁ t')) :
    wpAny (model prog w) A (call (.ref a) args) Q E (sh s h t) :=
  wpAny_call (q_codeC ns pn fr (by have := R.dp; omega) G hl hb hc hg hbind hok hfr (fun env h₁ t' e hL S X => k env h₁ t' e hL (R.deeper env) S X))
section
variable {prog : Program} {w : World} {A : Around} {E : Value → Shared → Prop} {s : Shared} {t : Nat} {h₀ h : Heap} {env : Env} {fr : Locals} {nw : Led} {scope : Scope} {cells : List (Str × Addr)} {x : Str} {pos : Pos} {v : Value} {Q : Value → Shared → Prop} {c : Addr}
/-- a captured name, or a free one -/
theorem q_ldc (S : St h₀ env h fr nw) (e : EnvIs env scope cells) (hk : scope.names.lookup x = some .free ∨ scope.names.lookup x = some .cell) (hc : cells.lookup x = some c) (hv : h.IsCell c (some v)) (k : Q v (sh s h t))
    (hd : (x == ("__debug__" : Str)) = false := by decide +kernel) (hn : (x == ("__classdict__" : Str)) = false := by decide +kernel) : wpAny (model prog w) A (eval (.Name x pos) env) Q E (sh s h t) := by
  refine wpAny_Name ?_ hd
  have hc' : env.cells.lookup x = some c := by rw [e.ce]; exact hc
  have : env.kindOf x = some .free ∨ env.kindOf x = some .cell := by
    rcases hk with q | q
    · exact e.fr x q
    · exact .inr (e.kd x _ q (by decide))
  rcases this with q | q
  · exact wpAny_loadName_free S.fn q hc' hv k hn
  · exact wpAny_loadName_cell S.fn q hc' hv k
end
end
section
open PySem PySem.W PySem.Spec PySem.Calls PyProof.Rows
set_option maxRecDepth 100000
set_option maxHeartbeats 4000000
def colStep (size col : Int) (c : Nat) : Int := if ((⟨#[c]⟩ : Str) == Str.ofString " ") = true then col + 1 else col + (size - col.fmod size)
def colF (x : Str) (size : Int) : Int := x.cps.toList.foldl (colStep size) 0
def colsF (x : Str) : List Int := (List.range 5).map fun j => colF x (1 + (j : Nat))
theorem take_foldl {α β : Type} (f : β → α → β) (a : β) (l : List α) {i : Nat} {c : α} (h : l[i]? = some c) : (l.take (i + 1)).foldl f a = f ((l.take i).foldl f a) c := by
  rw [List.take_add_one, h]; simp
theorem columns_spec {prog : Program} {w : World} {A : Around} {Q E : Value → Shared → Prop} {s : Shared} {h : Heap} {t : Nat} {x : Str} {p : Tok} (R : Rm A 1 3) (G : Gl w h)
    (k : ∀ D vs ep h' t', Keep h h' → h.get? D = none → h'.get? D = some (listObj vs ep) → IntsAre vs (colsF x) → Q (.ref D) (sh s h' t')) : wpAny (model prog w) A (call (.ref 136) [.str x p]) Q E (sh s h t) := by
  refine q_call (d := 0) (u := 0) [Str.ofString "lead", Str.ofString "columns", Str.ofString "size", Str.ofString "column", Str.ofString "sign"] [Str.ofString "lead"]
    [(Str.ofString "lead", some (.str x p)), (Str.ofString "columns", none), (Str.ofString "size", none), (Str.ofString "column", none), (Str.ofString "sign", none)]
    R G rfl rfl rfl ⟨rfl, rfl, rfl⟩ rfl (by decide +kernel) rfl ?_
  intro env h₁ tk e R' S
  have G₁ := G.keeps S.keep
  refine wpAny_execs_cons (wpAny_Assign_Name (List_ (args_nil (q_newList S (Nat.zero_le _) fun D h₂ S₂ k₂ hD => q_st S₂ (by walk_at "put") fun h₃ _ S₃ => ?_))))
  have hD0 : h.get? D = none := (S₃.new _ List.mem_cons_self).2
  refine wpAny_execs_cons (q_forRange (h₀ := h) (a := 1) (b := 6) 5 R'.hd (by decide +kernel) (by decide +kernel)
    (fun i fr nw => ∃ vs ep us uc ug, fr = [(Str.ofString "lead", some (.str x p)), (Str.ofString "columns", some (.ref D)), (Str.ofString "size", us), (Str.ofString "column", uc), (Str.ofString "sign", ug)] ∧
      nw = [(D, listObj vs ep)] ∧ IntsAre vs ((List.range i).map fun j => colF x (1 + (j : Nat)))) ?_ ?_ ?_)
  · refine wpAny_Call_NameR (q_range (G.keeps S₃.keep) S₃ e (PyProof.Rows.callWith_type1 (args_cons (q_cint fun _ _ => args_cons (q_cint fun _ _ => args_nil (q_crange2 fun r h' t' a' b' c' kk _ hr => ?_))))))
    exact ⟨r, h', t', _, _, a', b', c', rfl, rfl, hr, S₃.keeps kk, [], 0, none, none, none, rfl, rfl, .nil⟩
  · rintro i u h₄ h₅ fr nw t₅ hi ⟨vs, ep, us, uc, ug, rfl, rfl, hvs⟩ k₄ S₅
    refine q_absF fun Q' hQ => ?_
    refine wpAny_assign_Name (q_st S₅ (by walk_at "put") fun h₆ _ S₆ => ?_)
    refine wpAny_execs_cons (wpAny_Assign_Name (q_cint fun _ _ => q_st S₆ (by walk_at "put") fun h₇ _ S₇ => ?_))
    refine wpAny_execs_cons (q_forStr (h₀ := h₄) (x := x) R'.hd
      (fun j fr nw => ∃ uc ug, fr = [(Str.ofString "lead", some (.str x p)), (Str.ofString "columns", some (.ref D)), (Str.ofString "size", some (.int (1 + i) u)), (Str.ofString "column", some (.int ((x.cps.toList.take j).foldl (colStep (1 + i)) 0) uc)), (Str.ofString "sign", ug)] ∧
        nw = [(D, listObj vs ep)]) (q_ld S₇ (by walk_at "has") ⟨_, _, _, _, _, rfl, rfl, S₇, _, _, rfl, rfl⟩) ?_ ?_)
    · rintro j c v h₈ h₉ fr nw t₉ hc ⟨uc, ug, rfl, rfl⟩ k₈ S₉
      refine q_absF fun Q2 hQ2 => ?_
      refine wpAny_assign_Name (q_st S₉ (by walk_at "put") fun h₁₀ _ S₁₀ => ?_)
      have hcl : x.cps.toList[j]? = some c := by simpa using hc
      have hst := take_foldl (colStep (1 + i)) 0 x.cps.toList hcl
      refine wpAny_execs_cons (wpAny_AugAssign_Name (q_ldn S₁₀ (by walk_at "has") (q_ifexp (wpAny_isTrue_Compare1 (q_ld S₁₀ (by walk_at "has") (q_cstr fun _ _ => q_eqs (wpAny_truthy_bool ⟨fun hb => ?_, fun hb => ?_⟩)))))))
      · refine q_cint fun _ _ => q_iadd fun _ _ => q_st S₁₀ (by walk_at "put") fun h₁₁ _ S₁₁ => wpAny_execs_nil ?_
        have hv : (x.cps.toList.take j).foldl (colStep (1 + i)) 0 + 1 = (x.cps.toList.take (j + 1)).foldl (colStep (1 + i)) 0 := by rw [hst, colStep, if_pos hb]
        rw [hv] at S₁₁
        exact hQ2 .next _ ⟨h₁₁, _, _, _, rfl, S₁₁, _, _, rfl, rfl⟩
      · refine wpAny_BinOp (q_ld S₁₀ (by walk_at "has") (wpAny_BinOp (q_ld S₁₀ (by walk_at "has") (q_ld S₁₀ (by walk_at "has") (q_mod (by omega) fun _ _ => q_sub fun _ _ => q_iadd fun _ _ => q_st S₁₀ (by walk_at "put") fun h₁₁ _ S₁₁ => wpAny_execs_nil ?_)))))
        have hv : (x.cps.toList.take j).foldl (colStep (1 + i)) 0 + (1 + (i : Int) - ((x.cps.toList.take j).foldl (colStep (1 + i)) 0).fmod (1 + i)) = (x.cps.toList.take (j + 1)).foldl (colStep (1 + i)) 0 := by rw [hst, colStep, if_neg (by rw [hb]; decide)]
        rw [hv] at S₁₁
        exact hQ2 .next _ ⟨h₁₁, _, _, _, rfl, S₁₁, _, _, rfl, rfl⟩
    · rintro h₈ fr nw t₈ ⟨uc, ug, rfl, rfl⟩ S₈
      have hall : (x.cps.toList.take x.cps.size).foldl (colStep (1 + i)) 0 = colF x (1 + i) := by
        unfold colF; rw [List.take_of_length_le (by simp)]
      rw [hall] at S₈
      refine wpAny_execs_cons (q_expr S₈ (wpAny_Call_append rfl rfl rfl rfl (q_ld S₈ (by walk_at "has") ⟨D, vs.toArray, rfl, plainL_of (S₈.get List.mem_cons_self), q_ld S₈ (by walk_at "has") (q_append S₈ List.mem_cons_self ?_ (fun _ => Turn.here) fun ep' h₉ S₉ => wpAny_execs_nil ?_)⟩)))
      · have := hvs.length; simp at this; have := sizeLine_big; omega
      · refine hQ .next _ ⟨h₉, _, _, _, rfl, S₉, _, ep', _, _, _, rfl, rfl, ?_⟩
        rw [List.range_succ, List.map_append]
        exact IntsAre_snoc hvs _ _
  · rintro h₄ fr nw t₄ ⟨vs, ep, us, uc, ug, rfl, rfl, hvs⟩ S₄
    exact wpAny_execs_cons (wpAny_Return_some (q_ld S₄ (by walk_at "has") (k D vs ep _ _ S₄.keep hD0 (S₄.get List.mem_cons_self) hvs)))
end
section
open PySem PySem.W PySem.Spec PySem.Calls PyProof.Rows
set_option maxRecDepth 100000
set_option maxHeartbeats 4000000
theorem q_maxList {prog : Program} {w : World} {A : Around} {Q E : Value → Shared → Prop} {s : Shared} {h : Heap} {t : Nat} {l : Addr} {vs : List Value} {ns : List Int} (hA : A.handled = none) (hl : h.IsList l vs.toArray) (hi : IntsAre vs ns) (hne : ns ≠ [])
    (k : ∀ M u h' t', Keep h h' → M ∈ ns → (∀ a ∈ ns, a ≤ M) → Q (.int M u) (sh s h' t')) : wpAny (model prog w) A (call (.builtin "max") [.ref l]) Q E (sh s h t) := by
  obtain ⟨xs, ex⟩ := hi.allInts.items
  have en : xs.toList.map (·.1) = ns := by rw [← nums_intItems, ← ex]; exact hi.numsOf
  have hpos : 0 < xs.size := by
    cases hz : ns with
    | nil => exact absurd hz hne
    | cons a r => rw [hz] at en; have := congrArg List.length en; simp at this; omega
  rw [ex] at hl
  refine max_intList hA hl hpos fun v h' t' hv hk => ?_
  obtain ⟨u, rfl⟩ := intItems_at hv
  obtain ⟨h1, h2⟩ := argBest_gt (numAt xs) (xs.size - 1)
  have hlen : ns.length = xs.size := by rw [← en]; simp
  refine k _ u h' t' hk ?_ fun a ha => ?_
  · rw [numAt_eq, en]; exact PySem.getD_mem (by omega)
  · obtain ⟨j, hj, rfl⟩ := mem_getD ha
    rw [← en, ← numAt_eq]; exact h2 j (by omega)
def belowF (hs ts szs : List Int) : Bool := szs.all fun z => decide (hs.getD (z - 1).toNat 0 < ts.getD (z - 1).toNat 0)
theorem below_spec {prog : Program} {w : World} {A : Around} {Q E : Value → Shared → Prop} {s : Shared} {h : Heap} {t : Nat} {a b c : Addr} {xs ys zs : List Value} {hs ts szs : List Int} (R : Rm A 1 3) (G : Gl w h)
    (hx : h.IsList a xs.toArray) (ix : IntsAre xs hs) (hy : h.IsList b ys.toArray) (iy : IntsAre ys ts) (hz : h.IsList c zs.toArray) (iz : IntsAre zs szs) (lx : hs.length = 5) (ly : ts.length = 5) (hne : szs ≠ []) (hlen : szs.length ≤ 1000) (hr : ∀ z ∈ szs, 1 ≤ z ∧ z ≤ 5)
    (k : ∀ h' t', Keep h h' → Q (.bool (belowF hs ts szs)) (sh s h' t')) : wpAny (model prog w) A (call (.ref 141) [.ref a, .ref b, .ref c]) Q E (sh s h t) := by
  refine q_callC (d := 0) (u := 0) [Str.ofString "sizes"] [Str.ofString "here", Str.ofString "there", Str.ofString "sizes"] [(Str.ofString "sizes", some (.ref c))]
    R G rfl rfl rfl ⟨rfl, rfl, rfl⟩ rfl (by decide +kernel) rfl ?_
  intro env h₁ tk e hL R' S X
  have c1 : h₁.IsCell (0 + (h.objs.size + 1)) (some (.ref a)) := X (Str.ofString "here") 0 rfl
  have c2 : h₁.IsCell (1 + (h.objs.size + 1)) (some (.ref b)) := X (Str.ofString "there") 1 rfl
  have G₁ := G.keeps S.keep
  refine wpAny_execs_cons (wpAny_Return_some (wpAny_Compare1 (wpAny_Call_NameR (q_max G₁ S e (PyProof.Rows.callWith_builtin1 (args_cons ?_))))))
  refine q_comp _ e (by decide +kernel) rfl (by decide +kernel) (by decide) rfl rfl ?_
  refine q_ld S (by walk_at "has") ⟨h₁, _, _, _, fun j y os => os = [] ∧ ∃ z u, szs[j]? = some z ∧ y = .int (hs.getD (z - 1).toNat 0 - ts.getD (z - 1).toNat 0) u, rfl, Src.list R'.hd (lk hz S.keep), ?_, ?_, ?_⟩
  · have := iz.length; have := sizeLine_big; simp; omega
  · intro j v b₁ h' cenv t' e' hj hP k₁ S'
    have hsz : ∃ z u, szs[j]? = some z ∧ v = .int z u := by
      have hP' : zs[j]? = some v := by simpa using hP
      have hj' : j < szs.length := by have := iz.length; have : j < zs.length := by simpa using hj
                                      omega
      obtain ⟨u, hu⟩ := IntsAre_get iz (getElem?_getD hj')
      rw [hu] at hP'
      exact ⟨_, u, getElem?_getD hj', (Option.some.inj hP').symm⟩
    obtain ⟨z, u, hzj, rfl⟩ := hsz
    have hzr := hr z (List.mem_of_getElem? hzj)
    have kb := k₁.trans S'.keep
    have lst : ∀ {l : Addr} {vs : List Value} {ns : List Int}, h.IsList l vs.toArray → IntsAre vs ns → ns.length = 5 → ∃ u, vs[(z - 1).toNat]? = some (.int (ns.getD (z - 1).toNat 0) u) := fun hl hi hn => IntsAre_get hi (getElem?_getD (by omega))
    obtain ⟨u1, hu1⟩ := lst hx ix lx
    obtain ⟨u2, hu2⟩ := lst hy iy ly
    refine wpAny_BinOp (Subscript_ (q_ldc S' e' (.inl rfl) rfl (c1.keeps kb) (wpAny_BinOp (q_ld S' (by walk_at "has") (q_cint fun _ _ => q_sub fun _ _ => q_item (lk hx (S.keep.trans kb)) (by omega) (by omega) hu1 ?_)))))
    refine Subscript_ (q_ldc S' e' (.inl rfl) rfl (c2.keeps kb) (wpAny_BinOp (q_ld S' (by walk_at "has") (q_cint fun _ _ => q_sub fun _ _ => q_item (lk hy (S.keep.trans kb)) (by omega) (by omega) hu2 (q_sub fun u3 t3 => ?_)))))
    exact ⟨h', t3, [], rfl, Keep.refl _, ⟨rfl, z, u3, hzj, rfl⟩, fun p hp => (nomatch hp)⟩
  · intro D h' t' ep zs' k' hD hlD hn hF _
    refine args_nil ?_
    have hlen' : zs'.length = szs.length := by have := iz.length; simp at hn; omega
    have hints : IntsAre (zs'.map (·.1)) (szs.map fun z => hs.getD (z - 1).toNat 0 - ts.getD (z - 1).toNat 0) := by
      refine intsAre_of _ _ (by simpa using hlen') fun j y n hy hn' => ?_
      obtain ⟨_, z, u, hz', hy'⟩ := hF j y hy
      rw [List.getElem?_map, hz'] at hn'
      exact ⟨u, by rw [hy']; cases hn'; rfl⟩
    refine q_maxList R'.hd (isList_of hlD) hints (by simpa using hne) fun M u h₂ t₂ k₂ hM hmax => q_cint fun _ _ => q_lt ?_
    have : decide (M < 0) = belowF hs ts szs := by
      unfold belowF
      rw [Bool.eq_iff_iff, decide_eq_true_eq, List.all_eq_true]
      constructor
      · intro hlt z hz
        have := hmax _ (List.mem_map_of_mem (f := fun z => hs.getD (z - 1).toNat 0 - ts.getD (z - 1).toNat 0) hz)
        rw [decide_eq_true_eq]; omega
      · intro hall
        obtain ⟨z, hz, rfl⟩ := List.mem_map.mp hM
        have := hall z hz
        rw [decide_eq_true_eq] at this; omega
    rw [this]
    exact k _ _ (S.keep.trans (k'.trans k₂))
end
section
open PySem PySem.W PySem.Spec PySem.Calls PyProof.Rows
set_option maxRecDepth 100000
set_option maxHeartbeats 4000000
theorem Turn.upd {nw nw' : Led} {a : Addr} {o o' : Obj} (ht : Turn nw a o' nw') : (nw.map (·.1)).Nodup → (a, o) ∈ nw → Upd a o o' nw nw' := by
  induction ht with
  | @here a o' u r =>
    intro nd hm
    rw [List.map_cons, List.nodup_cons] at nd
    have hr : ∀ p ∈ r, p.1 ≠ a := fun p hp z => nd.1 (by rw [← z]; exact List.mem_map_of_mem (f := (·.1)) hp)
    rcases List.mem_cons.mp hm with e | hm
    · cases e; exact .head hr
    · exact absurd rfl (hr _ hm)
  | @there a o' p r r' h ih =>
    intro nd hm
    rw [List.map_cons, List.nodup_cons] at nd
    obtain ⟨u, hu⟩ := h.old
    have np : p.1 ≠ a := fun z => nd.1 (by rw [z]; exact List.mem_map_of_mem (f := (·.1)) hu)
    rcases List.mem_cons.mp hm with e | hm
    · subst e; exact absurd rfl np
    · exact .tail np (ih nd.2 hm)
abbrev tupObj (vs : List Value) : Obj := { cls := .type "tuple", data := .seq vs.toArray }
section
variable {prog : Program} {w : World} {A : Around} {E : Value → Shared → Prop} {s : Shared} {t : Nat} {h₀ h : Heap} {env : Env} {fr : Locals} {nw : Led} {x dx : Addr} {es : List DictEntry} {n : Nat} {name : Str} {v : Value}
/-- self.name = v, self made by the same call -/
theorem q_setattr {Q : Unit → Shared → Prop} {nw' : Tok → Led} (G : Gl w h₀) (S : St h₀ env h fr nw) (ab : h₀.objs.size ≤ env.locals) (hx : (x, instObj 118 dx) ∈ nw) (hd : (dx, dictOf es n) ∈ nw)
    (ht : takerIn (KK w) 118 name = some none) (hl : (getL name es).isSome = true) (hz : es.length.ble 900 = true)
    (hT : ∀ tk, Turn nw dx (dictOf (putL name (PyData.keyHash w.params name) (.str name tk) v es) (putN name es n)) (nw' tk))
    (k : ∀ tk h' t', St h₀ env h' fr (nw' tk) → Q () (sh s h' t')) : wpAny (model prog w) A (setAttr (.ref x) name v) Q E (sh s h t) := by
  obtain ⟨m, hn, hm⟩ := S.ns
  have F : Fr h₀ env.locals h m := ⟨hn, S.keep, ab⟩
  have N : News h₀ env.locals h nw := fun p hp => ⟨(S.new p hp).1, S.ne (o := p.2) hp, (S.new p hp).2⟩
  have I : InstAt h x (instObj 118 dx) 118 (some (dictOf es n)) := ⟨S.get hx, rfl, rfl, S.get hd⟩
  have hlen : ∀ (tk : Tok), ∀ l : List DictEntry, (putL name (PyData.keyHash w.params name) (.str name tk) v l).length ≤ l.length + 1 := by
    intro tk l
    induction l with
    | nil => exact Nat.le_refl _
    | cons e r ih => unfold putL; split <;> simp <;> omega
  refine set_dict (K := KK w) F G.kx N I rfl (by rfl) (by rfl) ht (by rfl) hl rfl ((hT (t + 1)).upd (List.nodup_cons.mp S.ndn).2 hd) (Nat.le_trans (hlen _ es) (by have := Nat.le_of_ble_eq_true hz; omega)) fun h' F' N' => k (t + 1) h' _ ?_
  exact ⟨S.fn, ⟨m, F'.ns, hm⟩, S.nd, S.kd, F'.keep, S.apart, fun p hp => ⟨(N' p hp).1, (N' p hp).2.2⟩, by rw [(hT (t + 1)).names]; exact S.ndn⟩
theorem q_getattr {Q : Value → Shared → Prop} {attr : Option Value} {expr : Bool} (G : Gl w h) (hx : h.get? x = some (instObj 118 dx)) (hd : h.get? dx = some (dictOf es n))
    (hl : getL name es = some (some v)) (hv : handedIn v = true) (k : ∀ t', Q v (sh s h t')) (ha : findIn (KK w) (.ref 118) name = some attr := by rfl) (hn : noGet (KK w) attr = true := by rfl) :
    wpAny (model prog w) A (getAttr (.ref x) name expr) Q E (sh s h t) := by
  have I : InstAt h x (instObj 118 dx) 118 (some (dictOf es n)) := ⟨hx, rfl, rfl, hd⟩
  exact get_value (K := KK w) G.kx I (by rfl) (findObj_own (by rfl) ha hn (by exact hl)) hv (k _)
theorem q_getmeth {Q : Value × List Value → Shared → Prop} {pl : Sem Bool} {f : Addr} (G : Gl w h) (hx : h.get? x = some (instObj 118 dx)) (hd : h.get? dx = some (dictOf es n))
    (hl : getL name es = some none) (k : Q (.ref f, [.ref x]) (sh s h t)) (hf : findIn (KK w) (.ref 118) name = some (some (.ref f)) := by rfl) (ht : typeIn (KK w) (.ref f) = some (.type "function") := by rfl) :
    wpAny (model prog w) A (getMethod (.ref x) name pl) Q E (sh s h t) := by
  have I : InstAt h x (instObj 118 dx) 118 (some (dictOf es n)) := ⟨hx, rfl, rfl, hd⟩
  exact method_fn (K := KK w) G.kx I (by rfl) (by rfl) hf ht (by show (lookIn name (dictOf es n)).map _ = _; rw [lookIn_dict, hl]; rfl) k
theorem q_clsattr {Q : Value → Shared → Prop} {expr : Bool} {mc : Value} (G : Gl w h) (hr : readsIn (KK w) 118 mc = true) (hf : findCls (KK w) (.ref 118) mc name = some (.val v)) (hv : handedIn v = true) (k : ∀ t', Q v (sh s h t')) :
    wpAny (model prog w) A (getAttr (.ref 118) name expr) Q E (sh s h t) := cls_value G.kx hr hf hv (k _)
/-- o.name(..) -/
theorem q_mcall {M : Model} {o : Expr} {apos pos : Pos} {args : List Expr} {s : Shared} {Q : Value → Shared → Prop}
    (k : wpAny M A (eval o env) (fun ov s₁ => wpAny M A (getMethod ov name (do return (← importBound o env).getD true)) (fun fs s₂ => wpAny M A (callWith pos fs.1 fs.2 (backTo pos (starEach args env)) []) Q E s₂) E s₁) E s)
    (hb : attributeBase o name env (eval o env) = eval o env := by rfl) (hf : methodCallForm (args.length + 0) (backTo pos (starEach args env)) (backToKw pos (keywordEach [] env)) = true := by rfl) (hline : (apos.endLine == pos.line) = true := by rfl) :
    wpAny M A (eval (.Call (.Attribute o name apos) args [] pos) env) Q E s := by
  rw [arm_eval_Call]
  rw [hb]
  refine wpAny_bind (wpAny_mono k (fun ov s₁ h₁ => wpAny_bind (wpAny_standAt ?_)) fun _ _ x => x)
  unfold methodCall
  show wpAny M A (holding [ov] (calleeOf (methodCallForm (args.length + 0) (backTo pos (starEach args env)) (backToKw pos (keywordEach [] env))) o env ov name) >>= _) Q E s₁
  rw [hf]
  refine wpAny_bind (wpAny_holding ?_)
  unfold calleeOf
  rw [if_pos rfl]
  refine wpAny_mono h₁ (fun fs s₂ h₂ => ?_) fun _ _ x => x
  have hp : methodCallPos (methodCallForm (args.length + ([] : List Keyword).length) (backTo pos (starEach args env)) (backToKw pos (keywordEach [] env))) o env apos pos = pure pos := by
    unfold methodCallPos; rw [hline, Bool.or_true]; rfl
  obtain ⟨f, first⟩ := fs
  show wpAny M A (methodCallPos (methodCallForm (args.length + ([] : List Keyword).length) (backTo pos (starEach args env)) (backToKw pos (keywordEach [] env))) o env apos pos >>= _) Q E s₂
  rw [hp]
  exact wpAny_bind (wpAny_pure h₂)
end
section
variable {prog : Program} {w : World} {A : Around} {E : Value → Shared → Prop} {s : Shared} {t : Nat} {h h₀ : Heap} {env : Env} {Q : Value → Shared → Prop} {fr : Locals} {nw nw' : Led}
theorem q_addl {l b : Addr} {vs ws : List Value} (S : St h₀ env h fr nw) (hl : h.IsList l vs.toArray) (hb : h.IsList b ws.toArray) (hsz : vs.length + ws.length ≤ sizeLine)
    (k : ∀ D h', St h₀ env h' fr ((D, listObj (vs ++ ws) 0) :: nw) → Keep h h' → h.get? D = none → Q (.ref D) (sh s h' t)) : wpAny (model prog w) A (binaryOp .Add (.ref l) (.ref b)) Q E (sh s h t) := by
  obtain ⟨⟨c1, d1, da1, sl1⟩, ho, hc, n, hd⟩ := hl
  obtain ⟨⟨c2, d2, da2, sl2⟩, ho2, hc2, n2, hd2⟩ := hb
  cases hc; cases hd; cases hc2; cases hd2
  refine concat_meets ⟨_, ho, rfl⟩ ⟨_, ho2, rfl⟩ noFill_list_add seq_list_add PySem.F.slot_list_add PySem.F.entry_list_add (PySem.F.args_list_add_2 _ _) (list_addW l b vs.toArray ws.toArray n n2 d1 d2 sl1 sl2 (by simpa using hsz)) ⟨ho, ho2, ?_⟩
  have e : vs.toArray ++ ws.toArray = (vs ++ ws).toArray := by simp
  rw [e]
  exact k _ _ (S.push _) (Keep.push h _) (none_of_ge (Nat.le_refl _))
theorem rep_one (v : Value) : ∀ (k : Nat) (a : Array Value), List.foldl (fun x1 x2 => x1 ++ x2) a (List.replicate k #[v]) = a ++ (List.replicate k v).toArray
  | 0, a => by simp
  | k + 1, a => by
    rw [List.replicate_succ, List.foldl_cons, rep_one v k, List.replicate_succ]
    apply Array.ext'
    simp
/-- [v] * i -/
theorem q_rep1 {l : Addr} {v : Value} {ep : Nat} {i : Int} {p : Tok} (S : St h₀ env h fr nw) (hl : h.get? l = some (listObj [v] ep)) (h0 : 0 ≤ i) (h1 : i ≤ 1000)
    (k : ∀ D h', St h₀ env h' fr ((D, listObj (List.replicate i.toNat v) 0) :: nw) → Keep h h' → h.get? D = none → Q (.ref D) (sh s h' t)) : wpAny (model prog w) A (binaryOp .Mult (.ref l) (.int i p)) Q E (sh s h t) := by
  have hl' : h.get? l = some { cls := .type "list", dict := none, data := .seq #[v] ep, slots := #[] } := hl
  refine wpAny_binaryOp_repeat_ref (T := "list") (U := "int") (by decide) ⟨_, hl', rfl⟩ (fun s' => typeIs_int s' i p) noFill_list_mul F.fills_int_mul F.slot_int_rmul repeat_list F.slot_int_index.lookup
    (call_meets F.slot_int_rmul (typeIs_int _ i p) F.entry_int_rmul (F.args_int_rmul_2 _ _) (int___rmul___int_list i p l #[v] ep) ⟨hl', rfl, ⟨_, hl', rfl⟩,
      call_meets F.slot_list_mul ⟨_, hl', rfl⟩ F.entry_list_mul (F.args_list_mul_2 _ _) (AutoListH.list___mul___list_int_3 l #[v] ep i p ?_ ?_ ?_) ⟨hl', ?_⟩⟩)
  · simp [Builtin.List.listFitsIndex]; omega
  · have e1 : (#[v] : Array Value).size = 1 := rfl
    rw [e1, Nat.one_mul]; omega
  · have := sizeLine_big; simp [Builtin.List.listTooLong]; omega
  · have e : List.foldl (fun x1 x2 => x1 ++ x2) #[] (List.replicate (if (#[v] : Array Value).isEmpty = true then 0 else i.toNat) #[v]) = (List.replicate i.toNat v).toArray := by
      rw [if_neg (by simp), rep_one]; simp
    rw [e]
    exact k _ _ (S.push _) (Keep.push h _) (none_of_ge (Nat.le_refl _))
theorem q_seti {Q : Unit → Shared → Prop} {l : Addr} {vs : List Value} {ep : Nat} {i : Int} {p : Tok} {v : Value} {nwOf : Led} (S : St h₀ env h fr nw) (hm : (l, listObj vs ep) ∈ nw) (h0 : 0 ≤ i) (h1 : i < vs.length) (hfit : vs.length ≤ 1000)
    (ht : Turn nw l (listObj (vs.set i.toNat v) ep) nwOf) (k : ∀ h', St h₀ env h' fr nwOf → Q () (sh s h' t)) : wpAny (model prog w) A (setItem (.ref l) (.int i p) v) Q E (sh s h t) := by
  have hl : h.get? l = some (PySem.W.listOf vs.toArray ep) := S.get hm
  refine ki_setAt (items := vs.toArray) hl h0 (by omega) (by rw [List.size_toArray]; exact h1) (k _ (S.turn ht (Heap.SameBut.update ..) ?_))
  refine (Heap.get?_update_self _ hl ?_).trans ?_
  · rfl
  · simp [Obj.mapSeq, listObj, PySem.W.listOf]
theorem q_tupleOf {l : Addr} {vs : List Value} (S : St h₀ env h fr nw) (hl : h.IsList l vs.toArray) (hsz : vs.length ≤ sizeLine)
    (k : ∀ D h', St h₀ env h' fr ((D, tupObj vs) :: nw) → Keep h h' → h.get? D = none → Q (.ref D) (sh s h' t)) : wpAny (model prog w) A (call (.type "tuple") [.ref l]) Q E (sh s h t) := by
  refine call_tuple_list hl (fun h' hk => ?_) (by simpa using hsz)
  refine k _ _ ((S.keeps hk).push _) (fun b o e => Heap.get?_push_of_some _ (hk b o e)) ?_
  cases e : h.get? h'.objs.size with
  | none => rfl
  | some o => exact absurd (Heap.lt_size (hk _ _ e)) (Nat.lt_irrefl _)
end
end
section
open PySem PySem.W PySem.Spec PySem.Calls PyProof.Rows
set_option maxRecDepth 100000
set_option maxHeartbeats 4000000
theorem isTuple_of {h : Heap} {a : Addr} {vs : List Value} (e : h.get? a = some (tupObj vs)) : h.IsTuple a vs.toArray := ⟨_, e, rfl, 0, rfl⟩
section
variable {prog : Program} {w : World} {A : Around} {E : Value → Shared → Prop} {s : Shared} {t : Nat} {h₀ h : Heap} {env : Env} {fr fr₁ fr₂ : Locals} {nw : Led} {x y : Str}
theorem keep_of_ext {h h' : Heap} (e : Heap.ExtBut h.objs.size h h') : Keep h h' := fun b o eb => e b o (Nat.ne_of_lt (Heap.lt_size eb)) eb
theorem swapped2 {px py tp vp : Pos} {k k2 : Nat} {e1 e2 : Expr} (S : St h₀ env h fr nw) (hx : env.kindOf x = some .local) (hy : env.kindOf y = some .local) (hxy : ([x, y] : List Str).eraseDups.length = 2) (hl : (py.line == px.line) = true)
    (hns : ([e1, e2].any fun | .Starred .. => true | _ => false) = false) (hf : [e1, e2].all (foldedForSure 8) = false) (hc : [e1, e2].all (constantsAlone 8) = false) :
    swappedStores [.Tuple [.Name x px, .Name y py] k tp] (.Tuple [e1, e2] k2 vp) env = pure (some [x, y]) := by
  have hb : env.blockKind = .function := by unfold Env.blockKind; rw [S.fn]; rfl
  have hl' : py.line = px.line := beq_iff_eq.mp hl
  have hn : ∀ l, l = px.line → ([Expr.Name x px, Expr.Name y py].filterMap fun
    | .Name id pos => if env.kindOf id == some .local && pos.line == l then some id else none
    | _ => none) = [x, y] := fun l e => by subst e; simp [hx, hy, hl']
  have e0 : swappedStores [.Tuple [.Name x px, .Name y py] k tp] (.Tuple [e1, e2] k2 vp) env =
      (if (env.blockKind != ScopeKind.function) = true then pure none
      else if ([e1, e2].any fun | .Starred .. => true | _ => false) = true then pure none
      else if (((([Expr.Name x px, Expr.Name y py].filterMap fun
          | .Name id pos => if env.kindOf id == some .local && pos.line == px.line then some id else none
          | _ => none) : List Str).length != 2) || ((([Expr.Name x px, Expr.Name y py].filterMap fun
          | .Name id pos => if env.kindOf id == some .local && pos.line == px.line then some id else none
          | _ => none) : List Str).eraseDups.length != (([Expr.Name x px, Expr.Name y py].filterMap fun
          | .Name id pos => if env.kindOf id == some .local && pos.line == px.line then some id else none
          | _ => none) : List Str).length)) = true then pure none
      else if [e1, e2].all (foldedForSure 8) = true then pure none
      else if [e1, e2].all (constantsAlone 8) = true then (do unsupported "assign.tuple-of-constant-expressions:order-of-the-stores"; pure (some (([Expr.Name x px, Expr.Name y py].filterMap fun
          | .Name id pos => if env.kindOf id == some .local && pos.line == px.line then some id else none
          | _ => none) : List Str)))
      else pure (some (([Expr.Name x px, Expr.Name y py].filterMap fun
          | .Name id pos => if env.kindOf id == some .local && pos.line == px.line then some id else none
          | _ => none) : List Str))) := rfl
  rw [e0, hn _ rfl, hb, hns, hf, hc, hxy]
  rfl
/-- x, y = e1, e2: both names of the frame -/
theorem q_pair {px py tp vp pos : Pos} {k k2 : Nat} {e1 e2 : Expr} {Q : Flow → Shared → Prop} (hA : A.handled = none) (S₀ : St h₀ env h fr nw) (hx : env.kindOf x = some .local) (hy : env.kindOf y = some .local) (hxy : ([x, y] : List Str).eraseDups.length = 2) (hl : (py.line == px.line) = true)
    (hns : ([e1, e2].any fun | .Starred .. => true | _ => false) = false) (hf : [e1, e2].all (foldedForSure 8) = false) (hc : [e1, e2].all (constantsAlone 8) = false)
    (he : wpAny (model prog w) A (eval e1 env) (fun a s₁ => wpAny (model prog w) A (eval e2 env) (fun b s₂ => ∃ h' t' fr nw fr₁ fr₂, s₂ = sh s h' t' ∧ St h₀ env h' fr nw ∧ Put fr y b fr₁ ∧ Put fr₁ x a fr₂ ∧ ∀ h'' t'', St h₀ env h'' fr₂ nw → Q .next (sh s h'' t'')) E s₁) E (sh s h t)) 
    (hst1 : starEach [e1, e2] env = [(false, eval e1 env), (false, eval e2 env)] := by rfl) (hsw : swapsWithSole [.Tuple [.Name x px, .Name y py] k tp] (.Tuple [e1, e2] k2 vp) pos.line env = pure false := by rfl) :
    wpAny (model prog w) A (exec (.Assign [.Tuple [.Name x px, .Name y py] k tp] (.Tuple [e1, e2] k2 vp) pos) env) Q E (sh s h t) := by
  have e : exec (.Assign [.Tuple [.Name x px, .Name y py] k tp] (.Tuple [e1, e2] k2 vp) pos) env = (do
      standAt pos
      if ← swapsWithSole [.Tuple [.Name x px, .Name y py] k tp] (.Tuple [e1, e2] k2 vp) pos.line env then do
        evalThenUse (.Tuple [e1, e2] k2 vp) env fun v => assignAll v ((assignEach [.Tuple [.Name x px, .Name y py] k tp] env).map (·.2))
        pure .next
      else do
        let v ← eval (.Tuple [e1, e2] k2 vp) env
        assignStores env v (← swappedStores [.Tuple [.Name x px, .Name y py] k tp] (.Tuple [e1, e2] k2 vp) env) ((assignEach [.Tuple [.Name x px, .Name y py] k tp] env).map (·.2))) := rfl
  rw [e, hsw, swapped2 S₀ hx hy hxy hl hns hf hc]
  refine wpAny_bind (wpAny_standAt (wpAny_bind (wpAny_pure ?_)))
  show wpAny _ A (eval (.Tuple [e1, e2] k2 vp) env >>= _) Q E _
  refine wpAny_bind (Tuple_ ?_)
  rw [hst1]
  refine Calls.spliced_cons (wpAny_mono he (fun a s₁ h₁ => Calls.spliced_cons (wpAny_mono h₁ (fun b s₂ h₂ => Calls.spliced_nil ?_) fun _ _ z => z)) fun _ _ z => z)
  obtain ⟨h', t', fr, nw, fr₁, fr₂, rfl, S, p1, p2, kk⟩ := h₂
  refine q_newTuple (vs := [a, b]) S (by show 2 ≤ sizeLine; have := sizeLine_big; omega) fun T h'' S'' k'' hT => ?_
  show wpAny _ A (rule "assign.swapped-stores" >>= fun _ => unpackItems (.ref T) 2 none >>= _) Q E _
  refine wpAny_bind (wpAny_rule (wpAny_bind ?_))
  refine wpAny_unpackItems_tuple (items := #[a, b]) hA ⟨_, S''.get List.mem_cons_self, rfl, 0, rfl⟩ fun h₃ hx₃ => ?_
  have S₃ := S''.drop1.keeps (keep_of_ext hx₃)
  show wpAny _ A (assignInOrder [fun v => bindName env y v, fun v => bindName env x v] [b, a] >>= fun _ => pure Flow.next) Q E _
  refine wpAny_bind (wpAny_bind (wpAny_holding (wpAny_bindName (q_st S₃ p1 fun h₄ t₄ S₄ => ?_))))
  exact wpAny_bind (wpAny_holding (wpAny_bindName (q_st S₄ p2 fun h₅ t₅ S₅ => wpAny_pure (wpAny_pure (kk _ _ S₅)))))
/-- x, y = a tuple of two -/
theorem q_unpack2 {px py tp : Pos} {k : Nat} {T : Addr} {a b : Value} {Q : Unit → Shared → Prop} (hA : A.handled = none) (S : St h₀ env h fr nw) (hT : h.IsTuple T #[a, b]) (p1 : Put fr x a fr₁) (p2 : Put fr₁ y b fr₂)
    (kk : ∀ h' t', St h₀ env h' fr₂ nw → Q () (sh s h' t')) : wpAny (model prog w) A (assign (.Tuple [.Name x px, .Name y py] k tp) env (.ref T)) Q E (sh s h t) := by
  refine wpAny_assign_Tuple hA hT rfl rfl fun h' hx => ?_
  have S' := S.keeps (keep_of_ext hx)
  show wpAny _ A (assignInOrder [assign (.Name x px) env, assign (.Name y py) env] [a, b]) Q E _
  refine wpAny_bind (wpAny_holding (wpAny_assign_Name (q_st S' p1 fun h₄ t₄ S₄ => ?_)))
  exact wpAny_bind (wpAny_holding (wpAny_assign_Name (q_st S₄ p2 fun h₅ t₅ S₅ => wpAny_pure (kk _ _ S₅))))
end
end
section
open PySem PySem.W PySem.Spec PySem.Calls PyProof.Rows
set_option maxRecDepth 100000
set_option maxHeartbeats 4000000
theorem St.opened {h₀ h₁ h : Heap} {env : Env} {fr : Locals} (S : St h₁ env h fr []) (k : Keep h₀ h₁) (os : Led) (ho : ∀ p ∈ os, h₁.get? p.1 = some p.2 ∧ h₀.get? p.1 = none) (hn : (os.map (·.1)).Nodup) : St h₀ env h fr os := by
  have S' := S.weaken k
  refine ⟨S.fn, S.ns, S.nd, S.kd, S'.keep, S'.apart, fun p hp => ⟨S.keep _ _ (ho p hp).1, (ho p hp).2⟩, List.nodup_cons.mpr ⟨fun hm => ?_, hn⟩⟩
  obtain ⟨p, hp, e⟩ := List.mem_map.mp hm
  have := (ho p hp).1
  rw [e, S.apart] at this; cases this
theorem q_cut {M : Model} {A : Around} {E : Value → Shared → Prop} {env : Env} {st : Stmt} {rest : List Stmt} {s : Shared} {Q : Flow → Shared → Prop} (P : Shared → Prop) (h1 : wpAny M A (exec st env) (fun f s' => f = .next ∧ P s') E s) (h2 : ∀ s', P s' → wpAny M A (execs rest env) Q E s') :
    wpAny M A (execs (st :: rest) env) Q E s :=
  wpAny_execs_cons (wpAny_mono h1 (fun f s' h => by obtain ⟨rfl, hp⟩ := h; exact h2 s' hp) fun _ _ z => z)
theorem q_cutA {M : Model} {A : Around} {E : Value → Shared → Prop} {env : Env} {st : Stmt} {rest : List Stmt} {s : Shared} {Q : Flow → Shared → Prop} (P : Shared → Prop) (h1 : ∀ Q' : Flow → Shared → Prop, (∀ s', P s' → Q' .next s') → wpAny M A (exec st env) Q' E s) (h2 : ∀ s', P s' → wpAny M A (execs rest env) Q E s') :
    wpAny M A (execs (st :: rest) env) Q E s := q_cut P (h1 _ fun _ x => ⟨rfl, x⟩) h2
abbrev initFr (X : Addr) (x : Str) (p : Tok) (cnt b n nt : Value) (ch : Option Value) : Locals :=
  [(Str.ofString "self", some (.ref X)), (Str.ofString "ws", some (.str x p)), (Str.ofString "S", some (.str (Str.ofString " ") 270)), (Str.ofString "T", some (.str (Str.ofString "\t") 271)), (Str.ofString "count", some cnt), (Str.ofString "b", some b), (Str.ofString "n", some n), (Str.ofString "nt", some nt), (Str.ofString "ch", ch)]
structure WS where
  count : List Int
  b : Int
  n : Int
  nt : Int
def wsBlank (st : WS) : WS := ⟨st.count, st.b + 1, st.n + 1, st.nt⟩
def wsGrown (st : WS) : List Int := if st.b ≥ st.count.length then st.count ++ List.replicate (st.b - st.count.length + 1).toNat 0 else st.count
def wsTab (st : WS) : WS := ⟨(wsGrown st).set st.b.toNat ((wsGrown st).getD st.b.toNat 0 + 1), 0, st.n + 1, st.nt + 1⟩
def wsGo : List Nat → WS → WS
  | [], st => st
  | c :: r, st => if ((⟨#[c]⟩ : Str) == Str.ofString " ") = true then wsGo r (wsBlank st) else if ((⟨#[c]⟩ : Str) == Str.ofString "\t") = true then wsGo r (wsTab st) else st
def wsF (x : Str) : WS := wsGo x.cps.toList ⟨[], 0, 0, 0⟩
theorem g_Whitespace {P : Params} : nsFind (globE P) (Str.ofString "Whitespace") = some (.ref 118) := by rfl
theorem nd_Whitespace : (Str.ofString "Whitespace" == ("__debug__" : Str)) = false := by decide +kernel
theorem drop_cons {α : Type} {l : List α} {i : Nat} {c : α} (h : l[i]? = some c) : l.drop i = c :: l.drop (i + 1) := by
  obtain ⟨hi, e⟩ := List.getElem?_eq_some_iff.mp h
  rw [List.drop_eq_getElem_cons hi, e]
/-- the made row: its dict's entries -/
structure WsEs (es : List DictEntry) (st : WS) (T : Addr) : Prop where
  n : ∃ u, getL "n" es = some (some (.int st.n u))
  nt : ∃ u, getL "nt" es = some (some (.int st.nt u))
  norm : getL "norm" es = some (some (.ref T))
  simple : getL "is_simple" es = some (some (.bool (decide ((st.count.length : Int) ≤ 1))))
  less : getL "less" es = some none
  level : getL "indent_level" es = some none
  longest : getL "longest_run_of_spaces" es = some none
/-- what bears a row -/
def WsOs (x : Addr) (st : WS) (os : Led) : Prop := ∃ dx es n T T' vs u, os = [(x, instObj 118 dx), (dx, dictOf es n), (T, tupObj [.ref T', .int st.b u]), (T', tupObj vs)] ∧ WsEs es st T ∧ IntsAre vs st.count
theorem init_fin {R : Result → Shared → Prop} {s : Shared} {h h' : Heap} {t' : Nat} {env : Env} {fr : Locals} {T T' l X Dx : Addr} {o : Obj} {st : WS} {ub : Tok} {vs : List Value} {es : List DictEntry} {n : Nat}
    (S : St h env h' fr [(T, tupObj [.ref T', .int st.b ub]), (T', tupObj vs), (l, o), (X, instObj 118 Dx), (Dx, dictOf es n)]) (hE : WsEs es st T) (hvs : IntsAre vs st.count)
    (k : ∀ os h' t', WsOs X st os → Keep h h' → Made h h' os → R (.ok (.ret .none)) (sh s h' t')) : R (.ok (.ret .none)) (sh s h' t') := by
  refine k _ h' t' ⟨Dx, es, n, T, T', vs, ub, rfl, hE, hvs⟩ S.keep fun q hq => ?_
  rcases List.mem_cons.mp hq with rfl | hq
  · exact S.new _ (by walk_at "mem")
  · rcases List.mem_cons.mp hq with rfl | hq
    · exact S.new _ (by walk_at "mem")
    · rcases List.mem_cons.mp hq with rfl | hq
      · exact S.new _ (by walk_at "mem")
      · rw [List.mem_singleton] at hq
        subst hq
        exact S.new _ (by walk_at "mem")
set_option maxHeartbeats 8000000 in
theorem init_code {prog : Program} {w : World} {A : Around} {R : Result → Shared → Prop} {s : Shared} {h : Heap} {t : Nat} {x : Str} {p : Tok} (RA : Rm A 1 3) (G : Gl w h) (hlen : x.cps.size ≤ 500)
    (k : ∀ os h' t', WsOs (h.objs.size + 1) (wsF x) os → Keep h h' → Made h h' os → R (.ok (.ret .none)) (sh s h' t')) :
    codeAny (model prog w) A (.call (.ref 73) ⟨[.ref (h.objs.size + 1), .str x p], []⟩) R (sh s ((h.push emptyDict).push (instObj 118 h.objs.size)) t) := by
  have k1 : Keep h ((h.push emptyDict).push (instObj 118 h.objs.size)) := (Keep.push h _).trans (Keep.push _ _)
  refine q_codeL [Str.ofString "self", Str.ofString "ws", Str.ofString "S", Str.ofString "T", Str.ofString "count", Str.ofString "b", Str.ofString "n", Str.ofString "nt", Str.ofString "ch"] [Str.ofString "self", Str.ofString "ws"]
    [(Str.ofString "self", some (.ref (h.objs.size + 1))), (Str.ofString "ws", some (.str x p)), (Str.ofString "S", none), (Str.ofString "T", none), (Str.ofString "count", none), (Str.ofString "b", none), (Str.ofString "n", none), (Str.ofString "nt", none), (Str.ofString "ch", none)]
    (by have := RA.dp; omega) (G.keeps k1) rfl rfl rfl ⟨rfl, rfl, rfl⟩ rfl (by decide +kernel) rfl ?_
  intro env h₁ tk e hL S0
  have R' := RA.deeper (d := 0) (u := 0) env
  have hsz : ((h.push emptyDict).push (instObj 118 h.objs.size)).objs.size = h.objs.size + 2 := by rw [Heap.size_push, Heap.size_push]
  have S := S0.opened k1 [(h.objs.size + 1, instObj 118 h.objs.size), (h.objs.size, dictOf [] 0)] (by
    intro q hq
    rcases List.mem_cons.mp hq with rfl | hq
    · have := Heap.get?_push_size (h.push emptyDict) (o := instObj 118 h.objs.size) rfl
      rw [Heap.size_push] at this
      exact ⟨this, none_of_ge (Nat.le_succ _)⟩
    · rw [List.mem_singleton] at hq
      subst hq
      exact ⟨Heap.get?_push_of_some _ (Heap.get?_push_size h rfl), none_of_ge (Nat.le_refl _)⟩) (by simp)
  have ab : h.objs.size ≤ env.locals := by rw [hL, hsz]; omega
  have kx : env.kindOf (Str.ofString "S") = some .local := e.kd _ _ rfl (by decide)
  have ky : env.kindOf (Str.ofString "T") = some .local := e.kd _ _ rfl (by decide)
  refine wpAny_execs_cons (plainObj_wpAny_Assign_Attribute (q_ld S (by walk_at "has") (q_ld S (by walk_at "has") (q_setattr G S ab (List.Mem.head _) (List.Mem.tail _ (List.Mem.head _)) rfl rfl rfl (fun _ => Turn.there Turn.here) fun tk1 h₂ t₂ S₂ => ?_))))
  have G₂ := G.keeps S₂.keep
  refine wpAny_execs_cons (q_pair R'.hd S₂ kx ky (by decide +kernel) rfl rfl rfl rfl (Attribute_Name_ (q_gl G₂ S₂ e rfl g_Whitespace nd_Whitespace (q_clsattr (mc := .type "type") G₂ rfl rfl rfl fun _ =>
    Attribute_Name_ (q_gl G₂ S₂ e rfl g_Whitespace nd_Whitespace (q_clsattr (mc := .type "type") G₂ rfl rfl rfl fun _ => ⟨_, _, _, _, _, _, rfl, S₂, by walk_at "put", by walk_at "put", fun h₃ t₃ S₃ => ?_⟩))))))
  refine wpAny_execs_cons (wpAny_Assign_Name (List_ (args_nil (q_newList S₃ (Nat.zero_le _) fun l₀ h₄ S₄ _ _ => q_st S₄ (by walk_at "put") fun h₅ t₅ S₅ => ?_))))
  refine wpAny_execs_cons (wpAny_Assign_three (q_cint fun u₀ _ => wpAny_assign_Name (q_st S₅ (by walk_at "put") fun h₆ _ S₆ => wpAny_assign_Name (q_st S₆ (by walk_at "put") fun h₇ _ S₇ => wpAny_assign_Name (q_st S₇ (by walk_at "put") fun h₈ t₈ S₈ => ?_)))))
  generalize hes : putL (Str.ofString "raw") (PyData.keyHash w.params (Str.ofString "raw")) (Value.str (Str.ofString "raw") tk1) (Value.str x p) [] = es1 at S₈
  have hraw : getL (Str.ofString "raw") es1 = some (some (.str x p)) := by rw [← hes]; rfl
  refine q_cutA (fun s' => ∃ h' t' l vs ep ub un ut uch, s' = sh s h' t' ∧ St h env h' (initFr (h.objs.size + 1) x p (.ref l) (.int (wsF x).b ub) (.int (wsF x).n un) (.int (wsF x).nt ut) uch) [(l, listObj vs ep), (h.objs.size + 1, instObj 118 h.objs.size), (h.objs.size, dictOf es1 1)] ∧ IntsAre vs (wsF x).count ∧ (wsF x).count.length ≤ 600)
    (fun Qc hQc => q_forStr (h₀ := h) (x := x) R'.hd (fun i fr nw => ∃ st l vs ep ub un ut uch, fr = initFr (h.objs.size + 1) x p (.ref l) (.int st.b ub) (.int st.n un) (.int st.nt ut) uch ∧ nw = [(l, listObj vs ep), (h.objs.size + 1, instObj 118 h.objs.size), (h.objs.size, dictOf es1 1)] ∧
      IntsAre vs st.count ∧ wsGo (x.cps.toList.drop i) st = wsF x ∧ 0 ≤ st.b ∧ st.b ≤ i ∧ st.count.length ≤ i + 1)
      (Attribute_Name_ (q_ld S₈ (by walk_at "has") (q_getattr (G.keeps S₈.keep) (S₈.get (by walk_at "mem")) (S₈.get (by walk_at "mem")) hraw rfl fun t₉ =>
        ⟨h₈, t₉, _, _, p, rfl, rfl, S₈, ⟨[], 0, 0, 0⟩, l₀, [], 0, u₀, u₀, u₀, none, rfl, rfl, .nil, rfl, Int.le_refl _, Int.le_refl _, by simp⟩))) ?_ ?_) ?_
  · rintro i c u hb₁ h₉ fr nw t₉ hc ⟨st, l, vs, ep, ub, un, ut, uch, rfl, rfl, hvs, hgo, hb0, hbi, hcl⟩ kb S₉
    have hci : x.cps.toList[i]? = some c := by simpa using hc
    have hi500 : i < 500 := by
      have : i < x.cps.toList.length := (List.getElem?_eq_some_iff.mp hci).1
      simp at this; omega
    rw [drop_cons hci, wsGo] at hgo
    refine q_absF fun Q' hQ => ?_
    refine wpAny_assign_Name (q_st S₉ (by walk_at "put") fun h₁₀ _ S₁₀ => ?_)
    refine wpAny_execs_cons (q_if (wpAny_isTrue_Compare1 (q_ld S₁₀ (by walk_at "has") (q_ld S₁₀ (by walk_at "has") (q_eqs (wpAny_truthy_bool ⟨fun hb => ?_, fun hb => ?_⟩))))))
    · rw [if_pos hb] at hgo
      refine wpAny_execs_cons (wpAny_Assign_Name (wpAny_BinOp (q_ld S₁₀ (by walk_at "has") (q_cint fun _ _ => q_add fun _ _ => q_st S₁₀ (by walk_at "put") fun h₁₁ _ S₁₁ => ?_))))
      refine wpAny_execs_cons (wpAny_Assign_Name (wpAny_BinOp (q_ld S₁₁ (by walk_at "has") (q_cint fun _ _ => q_add fun _ _ => q_st S₁₁ (by walk_at "put") fun h₁₂ _ S₁₂ => ?_))))
      exact wpAny_execs_nil (wpAny_execs_nil (hQ .next _ ⟨h₁₂, _, _, _, rfl, S₁₂, wsBlank st, l, vs, ep, _, _, _, _, rfl, rfl, hvs, hgo, by show 0 ≤ st.b + 1; omega, by show st.b + 1 ≤ _; omega, by show st.count.length ≤ _; omega⟩))
    · rw [if_neg (by rw [hb]; decide)] at hgo
      refine wpAny_execs_cons (q_if (wpAny_isTrue_Compare1 (q_ld S₁₀ (by walk_at "has") (q_ld S₁₀ (by walk_at "has") (q_eqs (wpAny_truthy_bool ⟨fun hb' => ?_, fun hb' => ?_⟩))))))
      · rw [if_pos hb'] at hgo
        refine wpAny_execs_cons (wpAny_Assign_Name (wpAny_BinOp (q_ld S₁₀ (by walk_at "has") (q_cint fun _ _ => q_add fun u1 _ => q_st S₁₀ (by walk_at "put") fun h₁₁ _ S₁₁ => ?_))))
        refine wpAny_execs_cons (wpAny_Assign_Name (wpAny_BinOp (q_ld S₁₁ (by walk_at "has") (q_cint fun _ _ => q_add fun u2 _ => q_st S₁₁ (by walk_at "put") fun h₁₂ t₁₂ S₁₂ => ?_))))
        have G₁₂ := G.keeps (kb.trans S₁₂.keep)
        have hvl : vs.length = st.count.length := hvs.length
        have hsz12 : vs.length ≤ sizeLine := by have := sizeLine_big; omega
        have l12 := isList_of (S₁₂.get (a := l) (by walk_at "mem"))
        refine q_cutA (fun s' => ∃ h' t' l' vs' ep', s' = sh s h' t' ∧ St hb₁ env h' (initFr (h.objs.size + 1) x p (.ref l') (.int st.b ub) (.int (st.n + 1) u1) (.int (st.nt + 1) u2) (some (.str ⟨#[c]⟩ u))) [(l', listObj vs' ep'), (h.objs.size + 1, instObj 118 h.objs.size), (h.objs.size, dictOf es1 1)] ∧ IntsAre vs' (wsGrown st)) (fun Q2 hQ2 => ?_) ?_
        · refine q_if (wpAny_isTrue_Compare1 (q_ld S₁₂ (by walk_at "has") (wpAny_Call_NameR (q_len G₁₂ S₁₂ e (PyProof.Rows.callWith_builtin1 (args_cons (q_ld S₁₂ (by walk_at "has") (args_nil (q_len_list l12 hsz12 fun _ _ => q_ge (wpAny_truthy_bool ⟨fun hge => ?_, fun hge => ?_⟩))))))))))
          · have hge' : st.b ≥ st.count.length := by rw [← hvl]; simpa using hge
            refine wpAny_execs_cons (wpAny_Assign_Name (wpAny_BinOp (q_ld S₁₂ (by walk_at "has") (wpAny_BinOp (List_ (args_cons (q_cint fun u3 _ => args_nil (q_newList S₁₂ (by have := sizeLine_big; simp; omega) fun lz h₁₃ S₁₃ _ _ => ?_))))))))
            have G₁₃ := G.keeps (kb.trans S₁₃.keep)
            refine wpAny_BinOp (wpAny_BinOp (q_ld S₁₃ (by walk_at "has") (wpAny_Call_NameR (q_len G₁₃ S₁₃ e (PyProof.Rows.callWith_builtin1 (args_cons (q_ld S₁₃ (by walk_at "has") (args_nil (q_len_list (isList_of (S₁₃.get (a := l) (by walk_at "mem"))) hsz12 fun _ _ => q_sub fun _ _ => q_cint fun _ _ => q_add fun _ _ => ?_)))))))))
            refine q_rep1 S₁₃ (S₁₃.get (by walk_at "mem")) (by omega) (by omega) fun lr h₁₄ S₁₄ _ _ => ?_
            refine q_addl S₁₄ (isList_of (S₁₄.get (a := l) (by walk_at "mem"))) (isList_of (S₁₄.get (a := lr) (by walk_at "mem"))) (by have := sizeLine_big; simp; omega) fun ln h₁₅ S₁₅ _ _ => q_st S₁₅ (by walk_at "put") fun h₁₆ t₁₆ S₁₆ => wpAny_execs_nil (hQ2 _ ⟨h₁₆, t₁₆, ln, _, 0, rfl, S₁₆.sub (List.Sublist.cons_cons _ (List.Sublist.cons _ (List.Sublist.cons _ (List.Sublist.cons _ (List.Sublist.refl _))))), ?_⟩)
            · unfold wsGrown
              rw [if_pos hge', hvl]
              refine hvs.append ?_
              have rep : ∀ k : Nat, IntsAre (List.replicate k (.int 0 u3)) (List.replicate k 0) := fun k => by
                induction k with
                | zero => exact .nil
                | succ k ih => exact .cons 0 u3 ih
              exact rep _
          · have hge' : ¬ st.b ≥ st.count.length := by rw [← hvl]; simpa using hge
            exact wpAny_execs_nil (hQ2 _ ⟨h₁₂, _, l, vs, ep, rfl, S₁₂, by unfold wsGrown; rw [if_neg hge']; exact hvs⟩)
        · rintro _ ⟨h₁₃, t₁₃, l', vs', ep', rfl, S₁₃, hvs'⟩
          have hgl : st.b < (wsGrown st).length := by
            unfold wsGrown
            split
            · simp; omega
            · omega
          have hgl2 : (wsGrown st).length ≤ i + 2 := by
            unfold wsGrown
            split
            · simp; omega
            · omega
          have hvl' : vs'.length = (wsGrown st).length := hvs'.length
          obtain ⟨u4, hu4⟩ := IntsAre_get hvs' (getElem?_getD (l := wsGrown st) (j := st.b.toNat) (by omega))
          have l13 := isList_of (S₁₃.get (a := l') (by walk_at "mem"))
          refine wpAny_execs_cons (wpAny_Assign_Subscript (wpAny_BinOp (Subscript_ (q_ld S₁₃ (by walk_at "has") (q_ld S₁₃ (by walk_at "has") (q_item l13 hb0 (by omega) hu4 (q_cint fun _ _ => q_add fun u5 _ => ?_)))))))
          refine q_ld S₁₃ (by walk_at "has") (q_ld S₁₃ (by walk_at "has") (q_seti S₁₃ (by walk_at "mem") hb0 (by omega) (by omega) Turn.here fun h₁₄ S₁₄ => ?_))
          refine wpAny_execs_cons (wpAny_Assign_Name (q_cint fun _ _ => q_st S₁₄ (by walk_at "put") fun h₁₅ _ S₁₅ => wpAny_execs_nil (wpAny_execs_nil (wpAny_execs_nil ?_))))
          refine hQ .next _ ⟨h₁₅, _, _, _, rfl, S₁₅, wsTab st, l', _, _, _, _, _, _, rfl, rfl, ?_, hgo, Int.le_refl _, by show (0 : Int) ≤ _; omega, by show ((wsGrown st).set _ _).length ≤ _; simp; omega⟩
          exact IntsAre_set hvs' _ _ _
      · rw [if_neg (by rw [hb']; decide)] at hgo
        subst hgo
        exact wpAny_execs_cons (wpAny_Break (hQ .brk _ (hQc _ ⟨h₁₀, _, l, vs, ep, ub, un, ut, _, rfl, S₁₀.weaken kb, hvs, by omega⟩)))
  · rintro h₉ fr nw t₉ ⟨st, l, vs, ep, ub, un, ut, uch, rfl, rfl, hvs, hgo, hb0, hbi, hcl⟩ S₉
    rw [List.drop_of_length_le (by simp)] at hgo
    have hgo' : st = wsF x := hgo
    subst hgo'
    exact hQc _ ⟨h₉, _, l, vs, ep, ub, un, ut, _, rfl, S₉, hvs, by omega⟩
  · rintro _ ⟨h₉, t₉, l, vs, ep, ub, un, ut, uch, rfl, S₉, hvs, hcl⟩
    subst hes
    have hvl : vs.length = (wsF x).count.length := hvs.length
    have hszv : vs.length ≤ sizeLine := by have := sizeLine_big; omega
    refine wpAny_execs_cons (plainObj_wpAny_Assign_Attribute (q_ld S₉ (by walk_at "has") (q_ld S₉ (by walk_at "has") (q_setattr G S₉ ab (by walk_at "mem") (by walk_at "mem") rfl rfl rfl (fun _ => Turn.there (Turn.there Turn.here)) fun tk2 h₁₀ t₁₀ S₁₀ => ?_))))
    refine wpAny_execs_cons (plainObj_wpAny_Assign_Attribute (q_ld S₁₀ (by walk_at "has") (q_ld S₁₀ (by walk_at "has") (q_setattr G S₁₀ ab (by walk_at "mem") (by walk_at "mem") rfl rfl rfl (fun _ => Turn.there (Turn.there Turn.here)) fun tk3 h₁₁ t₁₁ S₁₁ => ?_))))
    refine wpAny_execs_cons (plainObj_wpAny_Assign_Attribute (Tuple_ (args_cons (wpAny_Call_NameR (q_tuple (G.keeps S₁₁.keep) S₁₁ e (PyProof.Rows.callWith_type1 (args_cons (q_ld S₁₁ (by walk_at "has") (args_nil (q_tupleOf S₁₁ (isList_of (S₁₁.get (a := l) (by walk_at "mem"))) hszv fun T' h₁₂ S₁₂ _ _ => ?_))))))))))
    refine args_cons (q_ld S₁₂ (by walk_at "has") (args_nil (q_newTuple S₁₂ (by show 2 ≤ sizeLine; have := sizeLine_big; omega) fun T h₁₃ S₁₃ _ _ => q_ld S₁₃ (by walk_at "has") ?_)))
    refine q_setattr G S₁₃ ab (by walk_at "mem") (by walk_at "mem") rfl rfl rfl (fun _ => Turn.there (Turn.there (Turn.there (Turn.there Turn.here)))) fun tk4 h₁₄ t₁₄ S₁₄ => ?_
    refine wpAny_execs_cons (plainObj_wpAny_Assign_Attribute (wpAny_Compare1 (wpAny_Call_NameR (q_len (G.keeps S₁₄.keep) S₁₄ e (PyProof.Rows.callWith_builtin1 (args_cons (q_ld S₁₄ (by walk_at "has") (args_nil (q_len_list (isList_of (S₁₄.get (a := l) (by walk_at "mem"))) hszv fun _ _ => q_cint fun _ _ => q_le (q_ld S₁₄ (by walk_at "has") ?_))))))))))
    refine q_setattr G S₁₄ ab (by walk_at "mem") (by walk_at "mem") rfl rfl rfl (fun _ => Turn.there (Turn.there (Turn.there (Turn.there Turn.here)))) fun tk5 h₁₅ t₁₅ S₁₅ => wpAny_execs_nil ?_
    refine init_fin S₁₅ ?_ hvs k
    refine ⟨⟨_, rfl⟩, ⟨_, rfl⟩, rfl, ?_, rfl, rfl, rfl⟩
    rw [← hvl]; rfl
end
section
open PySem PySem.W PySem.Spec PySem.Calls PyProof.Rows
set_option maxRecDepth 100000
set_option maxHeartbeats 4000000
theorem under_weight (rest : List Value) : (Code.builtin "type.__call__" ⟨.ref 118 :: rest, []⟩).weight = 1 := by rfl
theorem under_units (rest : List Value) : (Code.builtin "type.__call__" ⟨.ref 118 :: rest, []⟩).cUnits = 1 := by rfl
theorem Rm.under {A : Around} {d u : Nat} (R : Rm A (d + 1) (u + 1)) (rest : List Value) : Rm (A.under (.builtin "type.__call__" ⟨.ref 118 :: rest, []⟩)) d u :=
  ⟨R.hd, by have := R.dp; show A.depth + (Code.builtin "type.__call__" ⟨.ref 118 :: rest, []⟩).weight + d < _; rw [under_weight]; omega, by have := R.un; show A.units + (Code.builtin "type.__call__" ⟨.ref 118 :: rest, []⟩).cUnits + u < _; rw [under_units]; omega⟩
theorem ws_spec {prog : Program} {w : World} {A : Around} {Q E : Value → Shared → Prop} {s : Shared} {h : Heap} {t : Nat} {x : Str} {p : Tok} (R : Rm A 2 4) (G : Gl w h) (hlen : x.cps.size ≤ 500)
    (k : ∀ X os h' t', WsOs X (wsF x) os → Keep h h' → Made h h' os → Q (.ref X) (sh s h' t')) : wpAny (model prog w) A (call (.ref 118) [.str x p]) Q E (sh s h t) := by
  refine wpAny_call (make_core (C := 118) (makes_of (K := KK w) G.kx (by rfl)) (looks_findIn (K := KK w) G.kx (by rfl)) (fun self => bind_fn (K := KK w) G.kx self (by rfl)) (.inl rfl) ?_)
  exact init_code (R.under [.str x p]) G hlen fun os h' t' ho hk hm => ⟨rfl, k _ os h' t' ho hk hm⟩
end
section
open PySem PySem.W PySem.Spec PySem.Calls PyProof.Rows
set_option maxRecDepth 100000
set_option maxHeartbeats 4000000
/-- a row lies at X -/
def WsAt (h : Heap) (X : Addr) (st : WS) : Prop := ∃ os, WsOs X st os ∧ ∀ p ∈ os, h.get? p.1 = some p.2
theorem WsAt.keeps {h h' : Heap} {X : Addr} {st : WS} (x : WsAt h X st) (k : Keep h h') : WsAt h' X st := let ⟨os, a, b⟩ := x; ⟨os, a, fun p hp => k _ _ (b p hp)⟩
structure WsIn (h : Heap) (X dx : Addr) (es : List DictEntry) (n : Nat) (T T' : Addr) (vs : List Value) (u : Tok) (st : WS) : Prop where
  x : h.get? X = some (instObj 118 dx)
  d : h.get? dx = some (dictOf es n)
  t : h.get? T = some (tupObj [.ref T', .int st.b u])
  t' : h.get? T' = some (tupObj vs)
  e : WsEs es st T
  i : IntsAre vs st.count
theorem WsAt.opened {h : Heap} {X : Addr} {st : WS} (x : WsAt h X st) : ∃ dx es n T T' vs u, WsIn h X dx es n T T' vs u st := by
  obtain ⟨os, ⟨dx, es, n, T, T', vs, u, rfl, hE, hi⟩, hp⟩ := x
  exact ⟨dx, es, n, T, T', vs, u, hp (X, instObj 118 dx) (by walk_at "mem"), hp (dx, dictOf es n) (by walk_at "mem"), hp (T, tupObj [.ref T', .int st.b u]) (by walk_at "mem"), hp (T', tupObj vs) (by walk_at "mem"), hE, hi⟩
theorem WsIn.keeps {h h' : Heap} {X dx : Addr} {es : List DictEntry} {n : Nat} {T T' : Addr} {vs : List Value} {u : Tok} {st : WS} (x : WsIn h X dx es n T T' vs u st) (k : Keep h h') : WsIn h' X dx es n T T' vs u st :=
  ⟨k _ _ x.x, k _ _ x.d, k _ _ x.t, k _ _ x.t', x.e, x.i⟩
/-- a row's numbers are small -/
structure WsSmall (st : WS) : Prop where
  len : st.count.length ≤ 100
  b0 : 0 ≤ st.b
  b1 : st.b ≤ 100
def longF (st : WS) : Int := if st.b > (st.count.length : Int) - 1 then st.b else (st.count.length : Int) - 1
def levelSum (st : WS) (ts : Int) (k : Nat) : Int := (List.range k).foldl (fun il j => il + (ts + (j : Nat)).fdiv ts * st.count.getD (ts + (j : Nat)).toNat 0) 0
def levelF (st : WS) (ts : Int) : Int := st.b + ts * (levelSum st ts ((st.count.length : Int) - ts).toNat + st.nt)
section
variable {prog : Program} {w : World} {A : Around} {Q E : Value → Shared → Prop} {s : Shared} {h : Heap} {t : Nat}
theorem q_len_tup {T : Addr} {vs : List Value} (hT : h.get? T = some (tupObj vs)) (hsz : vs.length ≤ 1000) (k : ∀ u t', Q (.int vs.length u) (sh s h t')) : wpAny (model prog w) A (call (.builtin "len") [.ref T]) Q E (sh s h t) :=
  PyProof.Rows.len_tuple (items := vs.toArray) ⟨_, hT, rfl, 0, rfl⟩ (by simp; omega) (by simpa using k _ _)
theorem q_item_tup {value slice : Expr} {T : Addr} {vs : List Value} {i : Int} {p : Tok} {x : Value} (hT : h.get? T = some (tupObj vs)) (h0 : 0 ≤ i) (hhi : i < 1000) (hx : vs[i.toNat]? = some x) (k : Q x (sh s h t))
    (hs : subscripted slice false (.ref T) (.int i p) = operate [.ref T, .int i p] (getItem (.ref T) (.int i p)) := by with_unfolding_all rfl) : wpAny (model prog w) A (subscriptTail value slice (.ref T) (.int i p)) Q E (sh s h t) := by
  refine item_tupleT (l := vs) (j := i.toNat) ⟨_, hT, rfl, 0, rfl⟩ (by omega) (by omega) ?_ hx k hs
  have hlt : i.toNat < vs.length := (List.getElem?_eq_some_iff.mp hx).1
  have hn : ¬ i < 0 := by omega
  have hb : (decide (0 ≤ i) && decide (i < (vs.length : Int))) = true := by simp; omega
  unfold seqIndex?
  simp only [if_neg hn, hb, if_true]
theorem q_max2 {a b : Int} {p q : Tok} (hA : A.handled = none) (k : ∀ u h' t', Keep h h' → Q (.int (if b > a then b else a) u) (sh s h' t')) : wpAny (model prog w) A (call (.builtin "max") [.int a p, .int b q]) Q E (sh s h t) :=
  max_two_ints hA fun h' tk hk => by
    by_cases c : b > a
    · rw [if_pos c]; have := k q h' tk hk; rw [if_pos c] at this; exact this
    · rw [if_neg c]; have := k p h' tk hk; rw [if_neg c] at this; exact this
theorem longest_spec {X : Addr} {st : WS} (R : Rm A 1 3) (G : Gl w h) (W : WsAt h X st) (sm : WsSmall st) (k : ∀ u h' t', Keep h h' → Q (.int (longF st) u) (sh s h' t')) :
    wpAny (model prog w) A (call (.ref 80) [.ref X]) Q E (sh s h t) := by
  obtain ⟨dx, es, n, T, T', vs, u, W⟩ := W.opened
  refine q_call (d := 0) (u := 0) [Str.ofString "self", Str.ofString "count", Str.ofString "trailing"] [Str.ofString "self"] [(Str.ofString "self", some (.ref X)), (Str.ofString "count", none), (Str.ofString "trailing", none)]
    R G rfl rfl rfl ⟨rfl, rfl, rfl⟩ rfl (by decide +kernel) rfl ?_
  intro env h₁ tk e R' S
  have G₁ := G.keeps S.keep
  have W₁ := W.keeps S.keep
  refine wpAny_execs_cons (Assign_Tuple (Attribute_Name_ (q_ld S (by walk_at "has") (q_getattr G₁ W₁.x W₁.d W.e.norm rfl fun _ => q_unpack2 R'.hd S (isTuple_of W₁.t) (by walk_at "put") (by walk_at "put") fun h₂ t₂ S₂ => ?_))))
  have hvl : vs.length = st.count.length := W.i.length
  have hsm := sm.len
  refine wpAny_execs_cons (wpAny_Return_some (wpAny_Call_NameR (q_max (G.keeps S₂.keep) S₂ e (PyProof.Rows.callWith_builtin1 (args_cons (wpAny_BinOp (wpAny_Call_NameR (q_len (G.keeps S₂.keep) S₂ e (PyProof.Rows.callWith_builtin1 (args_cons (q_ld S₂ (by walk_at "has") (args_nil (q_len_tup (W.keeps S₂.keep).t' (by omega) fun _ _ => q_cint fun _ _ => q_sub fun _ _ => args_cons (q_ld S₂ (by walk_at "has") (args_nil (q_max2 R'.hd fun u' h₃ t₃ k₃ => ?_))))))))))))))))
  have : (if st.b > (vs.length : Int) - 1 then st.b else (vs.length : Int) - 1) = longF st := by rw [hvl]; rfl
  rw [this]
  exact k _ _ _ (S₂.keep.trans k₃)
theorem levelSum_succ (st : WS) (ts : Int) (k : Nat) : levelSum st ts (k + 1) = levelSum st ts k + (ts + (k : Nat)).fdiv ts * st.count.getD (ts + (k : Nat)).toNat 0 := by
  unfold levelSum; rw [List.range_succ, List.foldl_append]; rfl
theorem level_spec {X : Addr} {st : WS} {ts : Int} {p : Tok} (R : Rm A 1 3) (G : Gl w h) (W : WsAt h X st) (sm : WsSmall st) (ht1 : 1 ≤ ts) (ht2 : ts ≤ 200) (k : ∀ u h' t', Keep h h' → Q (.int (levelF st ts) u) (sh s h' t')) :
    wpAny (model prog w) A (call (.ref 87) [.ref X, .int ts p]) Q E (sh s h t) := by
  obtain ⟨dx, es, n, T, T', vs, u, W⟩ := W.opened
  refine q_call (d := 0) (u := 0) [Str.ofString "self", Str.ofString "tabsize", Str.ofString "count", Str.ofString "trailing", Str.ofString "il", Str.ofString "i"] [Str.ofString "self", Str.ofString "tabsize"]
    [(Str.ofString "self", some (.ref X)), (Str.ofString "tabsize", some (.int ts p)), (Str.ofString "count", none), (Str.ofString "trailing", none), (Str.ofString "il", none), (Str.ofString "i", none)]
    R G rfl rfl rfl ⟨rfl, rfl, rfl⟩ rfl (by decide +kernel) rfl ?_
  intro env h₁ tk e R' S
  have G₁ := G.keeps S.keep
  have W₁ := W.keeps S.keep
  refine wpAny_execs_cons (Assign_Tuple (Attribute_Name_ (q_ld S (by walk_at "has") (q_getattr G₁ W₁.x W₁.d W.e.norm rfl fun _ => q_unpack2 R'.hd S (isTuple_of W₁.t) (by walk_at "put") (by walk_at "put") fun h₂ t₂ S₂ => ?_))))
  have hvl : vs.length = st.count.length := W.i.length
  have hsm := sm.len
  refine wpAny_execs_cons (wpAny_Assign_Name (q_cint fun u0 _ => q_st S₂ (by walk_at "put") fun h₃ t₃ S₃ => ?_))
  have hrs : Builtin.Range.rangeSize ts (vs.length : Int) 1 = ((((st.count.length : Int) - ts).toNat : Nat) : Int) := by
    unfold Builtin.Range.rangeSize
    rw [if_pos (by decide), hvl]
    split <;> omega
  refine wpAny_execs_cons (q_forRange (h₀ := h) (a := ts) (b := (vs.length : Int)) ((st.count.length : Int) - ts).toNat R'.hd hrs (small_one (by omega) (by omega) (by omega) (by omega))
    (fun i fr nw => ∃ ui ux, fr = [(Str.ofString "self", some (.ref X)), (Str.ofString "tabsize", some (.int ts p)), (Str.ofString "count", some (.ref T')), (Str.ofString "trailing", some (.int st.b u)), (Str.ofString "il", some (.int (levelSum st ts i) ui)), (Str.ofString "i", ux)] ∧ nw = []) ?_ ?_ ?_)
  · refine wpAny_Call_NameR (q_range (G.keeps S₃.keep) S₃ e (PyProof.Rows.callWith_type1 (args_cons (q_ld S₃ (by walk_at "has") (args_cons (wpAny_Call_NameR (q_len (G.keeps S₃.keep) S₃ e (PyProof.Rows.callWith_builtin1 (args_cons (q_ld S₃ (by walk_at "has") (args_nil (q_len_tup (W.keeps S₃.keep).t' (by omega) fun _ _ => args_nil (q_crange2 fun r h' t' a' b' c' kk _ hr => ?_)))))))))))))
    exact ⟨r, h', t', _, _, a', b', c', rfl, rfl, hr, S₃.keeps kk, u0, none, rfl, rfl⟩
  · rintro i v b₁ h₄ fr nw t₄ hi ⟨ui, ux, rfl, rfl⟩ k₁ S₄
    refine q_absF fun Q' hQ => ?_
    refine wpAny_assign_Name (q_st S₄ (by walk_at "put") fun h₅ _ S₅ => ?_)
    have hlt : (ts + (i : Int)).toNat < st.count.length := by omega
    obtain ⟨uc, huc⟩ := IntsAre_get W.i (getElem?_getD hlt)
    have hq : (ts + (i : Int)).fdiv ts = (ts + i) / ts := Int.fdiv_eq_ediv_of_nonneg _ (by omega)
    have hq0 : 0 ≤ (ts + (i : Int)) / ts := Int.ediv_nonneg (by omega) (by omega)
    have hq1 : (ts + (i : Int)) / ts ≤ ts + i := Int.ediv_le_self _ (by omega)
    refine wpAny_execs_cons (wpAny_Assign_Name (wpAny_BinOp (q_ld S₅ (by walk_at "has") (wpAny_BinOp (wpAny_BinOp (q_ld S₅ (by walk_at "has") (q_ld S₅ (by walk_at "has") (q_fdiv (by omega) (noPylong (by omega)) fun _ _ => Subscript_ (q_ld S₅ (by walk_at "has") (q_ld S₅ (by walk_at "has") (q_item_tup (W.keeps (k₁.trans S₅.keep)).t' (by omega) (by omega) huc (q_mul (.of_left (intBits_le_64 (by rw [hq]; omega) (by rw [hq]; omega))) fun _ _ => q_add fun u3 _ => q_st S₅ (by walk_at "put") fun h₆ t₆ S₆ => wpAny_execs_nil ?_))))))))))))
    rw [← levelSum_succ] at S₆
    exact hQ .next _ ⟨h₆, _, _, t₆, rfl, S₆, _, _, rfl, rfl⟩
  · rintro h₄ fr nw t₄ ⟨ui, ux, rfl, rfl⟩ S₄
    have W₄ := W.keeps S₄.keep
    obtain ⟨unt, hunt⟩ := W.e.nt
    refine wpAny_execs_cons (wpAny_Return_some (wpAny_BinOp (q_ld S₄ (by walk_at "has") (wpAny_BinOp (q_ld S₄ (by walk_at "has") (wpAny_BinOp (q_ld S₄ (by walk_at "has") (Attribute_Name_ (q_ld S₄ (by walk_at "has") (q_getattr (G.keeps S₄.keep) W₄.x W₄.d hunt rfl fun _ => q_add fun _ _ => q_mul (.of_left (intBits_le_64 (by omega) (by omega))) fun _ _ => q_add fun _ _ => ?_))))))))))
    exact k _ _ _ S₄.keep
end
end
section
open PySem PySem.W PySem.Spec PySem.Calls PyProof.Rows
set_option maxRecDepth 100000
set_option maxHeartbeats 4000000
def simpleF (a : WS) : Bool := decide ((a.count.length : Int) ≤ 1)
def lessN (a b : WS) : Int := (if longF b > longF a then longF b else longF a) + 1
def lessF (a b : WS) : Bool := if a.n ≥ b.n then false else if (simpleF a && simpleF b) = true then decide (a.nt ≤ b.nt) else
  (List.range (lessN a b + 1 - 2).toNat).all fun j => decide (levelF a (2 + (j : Nat)) < levelF b (2 + (j : Nat)))
theorem keep_long (P : Params) : keepIn (hd.heap_39 P) (.ref 80) = true := by rfl
theorem keep_level (P : Params) : keepIn (hd.heap_39 P) (.ref 87) = true := by rfl
theorem keep_less (P : Params) : keepIn (hd.heap_39 P) (.ref 108) = true := by rfl
section
variable {prog : Program} {w : World} {A : Around} {Q E : Value → Shared → Prop} {s : Shared} {h : Heap} {t : Nat}
theorem q_cutr {M : Model} {A : Around} {E : Value → Shared → Prop} {env : Env} {st : Stmt} {rest : List Stmt} {s : Shared} {Q : Flow → Shared → Prop} (P : Shared → Prop) (h1 : wpAny M A (exec st env) (fun f s' => (f = .next ∧ P s') ∨ ∃ v, f = .ret v ∧ Q (.ret v) s') E s) (h2 : ∀ s', P s' → wpAny M A (execs rest env) Q E s') :
    wpAny M A (execs (st :: rest) env) Q E s :=
  wpAny_execs_cons (wpAny_mono h1 (fun f s' h => by
    rcases h with ⟨rfl, hp⟩ | ⟨v, rfl, hq⟩
    · exact h2 s' hp
    · exact hq) fun _ _ z => z)
theorem q_allTrue2 {M : Model} {A : Around} {E : Value → Shared → Prop} {env : Env} {x y : Expr} {pos : Pos} {whole : Sem Value} {Q : Bool → Shared → Prop} {s : Shared}
    (k : wpAny M A (isTrue x env (eval x env)) (fun b s₁ => (b = true → wpAny M A (isTrue y env (eval y env)) Q E s₁) ∧ (b = false → Q false s₁)) E s) : wpAny M A (isTrue (.BoolOp .And [x, y] pos) env whole) Q E s :=
  wpAny_isTrue_BoolOp (wpAny_allTrue_And_cons (wpAny_mono k (fun b s₁ hb => by
    cases b with
    | true => rw [if_pos rfl]; exact wpAny_allTrue_And_cons (wpAny_mono (hb.1 rfl) (fun c s₂ hc => by cases c with | true => rw [if_pos rfl]; exact wpAny_allTrue_And_nil hc | false => rw [if_neg (by decide)]; exact hc) fun _ _ z => z)
    | false => rw [if_neg (by decide)]; exact hb.2 rfl) fun _ _ z => z))
theorem less_spec {X Y : Addr} {a b : WS} (R : Rm A 2 6) (G : Gl w h) (WX : WsAt h X a) (WY : WsAt h Y b) (sa : WsSmall a) (sb : WsSmall b) (k : ∀ h' t', Keep h h' → Q (.bool (lessF a b)) (sh s h' t')) :
    wpAny (model prog w) A (call (.ref 108) [.ref X, .ref Y]) Q E (sh s h t) := by
  obtain ⟨dx, es, n, T, T', vs, u, VX⟩ := WX.opened
  obtain ⟨dy, es2, n2, T2, T2', vs2, u2, VY⟩ := WY.opened
  refine q_call (d := 1) (u := 3) [Str.ofString "self", Str.ofString "other", Str.ofString "n", Str.ofString "ts"] [Str.ofString "self", Str.ofString "other"]
    [(Str.ofString "self", some (.ref X)), (Str.ofString "other", some (.ref Y)), (Str.ofString "n", none), (Str.ofString "ts", none)]
    R G rfl rfl rfl ⟨rfl, rfl, rfl⟩ rfl (by decide +kernel) rfl ?_
  intro env h₁ tk e R' S
  have G₁ := G.keeps S.keep
  have V₁ := VX.keeps S.keep
  have V₂ := VY.keeps S.keep
  obtain ⟨un1, hn1⟩ := VX.e.n
  obtain ⟨un2, hn2⟩ := VY.e.n
  obtain ⟨ut1, ht1⟩ := VX.e.nt
  obtain ⟨ut2, ht2⟩ := VY.e.nt
  refine wpAny_execs_cons (q_if (wpAny_isTrue_Compare1 (Attribute_Name_ (q_ld S (by walk_at "has") (q_getattr G₁ V₁.x V₁.d hn1 rfl fun _ => Attribute_Name_ (q_ld S (by walk_at "has") (q_getattr G₁ V₂.x V₂.d hn2 rfl fun _ => q_ge (wpAny_truthy_bool ⟨fun hge => ?_, fun hge => ?_⟩))))))))
  · refine wpAny_execs_cons (wpAny_Return_some (wpAny_Constant_bool ?_))
    have : lessF a b = false := by unfold lessF; rw [if_pos (by simpa using hge)]
    rw [this] at k
    exact k _ _ S.keep
  · refine wpAny_execs_nil ?_
    have hge' : ¬ a.n ≥ b.n := by simpa using hge
    refine q_cutr (fun s' => (simpleF a && simpleF b) = false ∧ ∃ t₁, s' = sh s h₁ t₁) ?_ ?_
    · refine q_if (q_allTrue2 (wpAny_isTrue_value (Attribute_Name_ (q_ld S (by walk_at "has") (q_getattr G₁ V₁.x V₁.d VX.e.simple rfl fun _ => wpAny_truthy_bool ⟨fun h1 => ?_, fun h1 => ?_⟩)))))
      · refine wpAny_isTrue_value (Attribute_Name_ (q_ld S (by walk_at "has") (q_getattr G₁ V₂.x V₂.d VY.e.simple rfl fun t₃ => wpAny_truthy_bool ⟨fun h2 => ?_, fun h2 => ?_⟩)))
        · refine wpAny_execs_cons (wpAny_Return_some (wpAny_Compare1 (Attribute_Name_ (q_ld S (by walk_at "has") (q_getattr G₁ V₁.x V₁.d ht1 rfl fun _ => Attribute_Name_ (q_ld S (by walk_at "has") (q_getattr G₁ V₂.x V₂.d ht2 rfl fun _ => q_le ?_)))))))
          have : lessF a b = decide (a.nt ≤ b.nt) := by unfold lessF simpleF; rw [if_neg hge', h1, h2]; rfl
          rw [this] at k
          exact .inr ⟨_, rfl, k _ _ S.keep⟩
        · exact wpAny_execs_nil (.inl ⟨rfl, by unfold simpleF; rw [h1, h2]; rfl, _, rfl⟩)
      · refine ⟨fun z => (by cases z), fun _ => wpAny_execs_nil (.inl ⟨rfl, by unfold simpleF; rw [h1]; rfl, _, rfl⟩)⟩
    · rintro _ ⟨hs, t₁, rfl⟩
      have hl : lessF a b = (List.range (lessN a b + 1 - 2).toNat).all fun j => decide (levelF a (2 + (j : Nat)) < levelF b (2 + (j : Nat))) := by
        unfold lessF; rw [if_neg hge', hs]; rfl
      refine wpAny_execs_cons (wpAny_Assign_Name (wpAny_BinOp (wpAny_Call_NameR (q_max G₁ S e (PyProof.Rows.callWith_builtin1 (args_cons (q_mcall (q_ld S (by walk_at "has") (q_getmeth G₁ V₁.x V₁.d VX.e.longest (callWith_K0 (K := KK w) G₁.kx (keep_long _) (longest_spec R'.less G₁ (WX.keeps S.keep) sa fun uu h₂ t₂ k₂ => ?_)))))))))))
      have S₂ := S.keeps k₂
      have G₂ := G₁.keeps k₂
      refine args_cons (q_mcall (q_ld S₂ (by walk_at "has") (q_getmeth G₂ (V₂.keeps k₂).x (V₂.keeps k₂).d VY.e.longest (callWith_K0 (K := KK w) G₂.kx (keep_long _) (longest_spec R'.less G₂ (WY.keeps S₂.keep) sb fun uu2 h₃ t₃ k₃ => args_nil (q_max2 R'.hd fun um h₄ t₄ k₄ => q_cint fun _ _ => q_add fun uq _ => q_st ((S₂.keeps k₃).keeps k₄) (by walk_at "put") fun h₅ t₅ S₅ => ?_))))))
      have hN : (if longF b > longF a then longF b else longF a) + 1 = lessN a b := rfl
      rw [hN] at S₅
      have hla : longF a ≤ 100 ∧ -1 ≤ longF a := by unfold longF; have := sa.len; have := sa.b1; have := sa.b0; split <;> omega
      have hlb : longF b ≤ 100 ∧ -1 ≤ longF b := by unfold longF; have := sb.len; have := sb.b1; have := sb.b0; split <;> omega
      have hn : lessN a b ≤ 101 ∧ 0 ≤ lessN a b := by unfold lessN; split <;> omega
      refine wpAny_execs_cons (q_forRange (h₀ := h) (a := 2) (b := lessN a b + 1) (lessN a b + 1 - 2).toNat R'.hd ?_ (small_one (by omega) (by omega) (by omega) (by omega))
        (fun i fr nw => ∃ ux, fr = [(Str.ofString "self", some (.ref X)), (Str.ofString "other", some (.ref Y)), (Str.ofString "n", some (.int (lessN a b) uq)), (Str.ofString "ts", ux)] ∧ nw = [] ∧ ∀ j, j < i → levelF a (2 + (j : Nat)) < levelF b (2 + (j : Nat))) ?_ ?_ ?_)
      · unfold Builtin.Range.rangeSize
        rw [if_pos (by decide)]
        split <;> omega
      · refine wpAny_Call_NameR (q_range (G.keeps S₅.keep) S₅ e (PyProof.Rows.callWith_type1 (args_cons (q_cint fun _ _ => args_cons (wpAny_BinOp (q_ld S₅ (by walk_at "has") (q_cint fun _ _ => q_add fun _ _ => args_nil (q_crange2 fun r h' t' a' b' c' kk _ hr => ?_))))))))
        exact ⟨r, h', t', _, _, a', b', c', rfl, rfl, hr, S₅.keeps kk, none, rfl, rfl, fun j hj => absurd hj (Nat.not_lt_zero _)⟩
      · rintro i v b₁ h₆ fr nw t₆ hi ⟨ux, rfl, rfl, hall⟩ k₁ S₆
        refine q_absF fun Q' hQ => ?_
        refine wpAny_assign_Name (q_st S₆ (by walk_at "put") fun h₇ _ S₇ => ?_)
        have k7 := k₁.trans S₇.keep
        have G₇ := G.keeps k7
        refine wpAny_execs_cons (q_if (wpAny_isTrue_Compare1 (q_mcall (q_ld S₇ (by walk_at "has") (q_getmeth G₇ (VX.keeps k7).x (VX.keeps k7).d VX.e.level (callWith_K (K := KK w) G₇.kx (keep_level _) (args_cons (q_ld S₇ (by walk_at "has") (args_nil ⟨G₇.kx, level_spec R'.less G₇ (WX.keeps k7) sa (by omega) (by omega) fun ul h₈ t₈ k₈ => ?_⟩)))))))))
        have S₈ := S₇.keeps k₈
        have k8 := k7.trans k₈
        have G₈ := G.keeps k8
        refine q_mcall (q_ld S₈ (by walk_at "has") (q_getmeth G₈ (VY.keeps k8).x (VY.keeps k8).d VY.e.level (callWith_K (K := KK w) G₈.kx (keep_level _) (args_cons (q_ld S₈ (by walk_at "has") (args_nil ⟨G₈.kx, level_spec R'.less G₈ (WY.keeps k8) sb (by omega) (by omega) fun ul2 h₉ t₉ k₉ => q_ge (wpAny_truthy_bool ⟨fun hge => ?_, fun hge => ?_⟩)⟩))))))
        · refine wpAny_execs_cons (wpAny_Return_some (wpAny_Constant_bool ?_))
          have hf : lessF a b = false := by
            rw [hl, List.all_eq_false]
            exact ⟨i, List.mem_range.mpr hi, by simpa using hge⟩
          rw [hf] at k
          exact hQ (.ret _) _ (k _ _ (k8.trans k₉))
        · refine wpAny_execs_nil (wpAny_execs_nil (hQ .next _ ⟨h₉, _, _, t₉, rfl, S₈.keeps k₉, _, rfl, rfl, fun j hj => ?_⟩))
          rcases Nat.lt_or_eq_of_le (Nat.le_of_lt_succ hj) with q | q
          · exact hall j q
          · subst q; simpa using hge
      · rintro h₆ fr nw t₆ ⟨ux, rfl, rfl, hall⟩ S₆
        refine wpAny_execs_cons (wpAny_Return_some (wpAny_Constant_bool ?_))
        have hf : lessF a b = true := by
          rw [hl, List.all_eq_true]
          exact fun j hj => by simpa using hall j (List.mem_range.mp hj)
        rw [hf] at k
        exact k _ _ S₆.keep
end
end
section
open PySem PySem.W PySem.Spec PySem.Calls PyProof.Rows
set_option maxRecDepth 100000
set_option maxHeartbeats 4000000
open AutoSeq1 (wpAny_loadPart')
def ltP (a c b d : Int) : Bool := decide (a < b) || (a == b && decide (c < d))
section
variable {prog : Program} {w : World} {A : Around} {s : Shared} {a b : Int} {ta tb : Tok}
theorem eqb_int {E : Value → Shared → Prop} {Q : Bool → Shared → Prop} (h : Q (a == b) s) : wpAny (model prog w) A (eqBool (.int a ta) (.int b tb)) Q E s := SeqAt.EqAt.int_int a ta b tb prog w E Q h
theorem rcl_int {E : Value → Shared → Prop} {Q : Value → Shared → Prop} (h : Q (.bool (decide (a < b))) s) : wpAny (model prog w) A (richCompare .Lt (.int a ta) (.int b tb)) Q E s := P.lt_int h
end
theorem tuple_ltAt (l m : Addr) (a b c d : Int) (ta tb tc td : Tok) :
    Meets (Builtin.«tuple.__lt__» ⟨[.ref l, .ref m], []⟩)
      (fun A R s => s.heap.get? l = some (tupObj [.int a ta, .int c tc]) ∧ s.heap.get? m = some (tupObj [.int b tb, .int d td]) ∧
        R (.ok (.ret (.bool (ltP a c b d)))) s) :=
  .of_wp fun prog w A R s h => by
    obtain ⟨hp, g, dr, tk, os⟩ := s; obtain ⟨hl, hb, h⟩ := h
    have f2 := AutoSeq1.sub_tuple_tuple
    wp_walk using wpAny_loadPart' hl, wpAny_loadPart' hb, eqb_int
    by_cases hab : a = b
    · have e1 : (a == b) = true := beq_iff_eq.mpr hab
      rw [e1]
      wp_walk using eqb_int
      by_cases hcd : c = d
      · have e2 : (c == d) = true := beq_iff_eq.mpr hcd
        have e3 : ltP a c b d = false := by simp [ltP, hab, hcd]
        rw [e3] at h
        rw [e2]
        wp_walk
        exact ⟨_, rfl, h⟩
      · have e2 : (c == d) = false := by simpa using hcd
        have e3 : ltP a c b d = decide (c < d) := by simp [ltP, hab]
        rw [e3] at h
        rw [e2]
        wp_walk using rcl_int
        exact ⟨_, rfl, h⟩
    · have e1 : (a == b) = false := by simpa using hab
      have e3 : ltP a c b d = decide (a < b) := by simp [ltP, hab]
      rw [e3] at h
      rw [e1]
      wp_walk using rcl_int
      exact ⟨_, rfl, h⟩
/-- (a, c) < (b, d) -/
theorem q_ltt {prog : Program} {w : World} {A : Around} {E : Value → Shared → Prop} {s : Shared} {t : Nat} {h : Heap} {Q : Value → Shared → Prop} {l m : Addr} {a b c d : Int} {ta tb tc td : Tok} (hu : A.units < cLine)
    (hl : h.get? l = some (tupObj [.int a ta, .int c tc])) (hm : h.get? m = some (tupObj [.int b tb, .int d td])) (k : Q (.bool (ltP a c b d)) (sh s h t)) :
    wpAny (model prog w) A (compareOp .Lt (.ref l) (.ref m)) Q E (sh s h t) :=
  richCompare_meets_room (op := .Lt) ⟨_, hl, rfl⟩ ⟨_, hm, rfl⟩ F.slot_tuple_lt F.entry_tuple_lt (F.args_tuple_lt_2 _ _) (tuple_ltAt l m a b c d ta tb tc td) ⟨hl, hm, (fun x => nomatch x), k⟩ hu
end
section
open PySem PySem.W PySem.Spec PySem.Calls PyProof.Rows
set_option maxRecDepth 100000
set_option maxHeartbeats 4000000
theorem sub_ri_reversed : isSubtype (.type "range_iterator") (.type "reversed") = pure false := by rw [isSubtype_type]; kernel_rfl
theorem range_reversedM (r : Addr) (a b c : Int) (t u v : Tok) (hc0 : ¬(!(Builtin.Range.rangeFitsLong a && Builtin.Range.rangeFitsLong b && Builtin.Range.rangeFitsLong c && Builtin.Range.rangeFitsLong (-c) && Builtin.Range.rangeFitsLong (a - c) && Builtin.Range.rangeFitsLong (Builtin.Range.rangeSize a b c))) = true) :
    Meets (Builtin.«range.__reversed__» ⟨[.ref r], []⟩) (fun _ R s => s.heap.get? r = some { cls := .type "range", dict := none, data := .fields #[.int a t, .int b u, .int c v], slots := #[] } ∧ R (.ok (.ret (Value.ref s.heap.objs.size))) { s with heap := s.heap.push { cls := Value.type (if (Builtin.Range.rangeFitsLong a && Builtin.Range.rangeFitsLong b && Builtin.Range.rangeFitsLong c && Builtin.Range.rangeFitsLong (-c) && Builtin.Range.rangeFitsLong (a - c) && Builtin.Range.rangeFitsLong (Builtin.Range.rangeSize a b c)) = true then "range_iterator" else "longrange_iterator"), data := Data.fields #[rawInt (a + (Builtin.Range.rangeSize a b c - 1) * c), rawInt (Builtin.Range.rangeSize a b c), rawInt (-c)] }, toks := s.toks }) :=
  .of_wp fun prog w A R s h => by obtain ⟨hp, g, d, tk, os⟩ := s; obtain ⟨hl, h⟩ := h; wp_walk; exact ⟨_, rfl, h⟩
section
variable {prog : Program} {w : World} {A : Around} {E : Value → Shared → Prop} {s : Shared}
abbrev revRange (n : Nat) : Obj := { cls := .type "range_iterator", data := .fields #[rawInt ((n : Int) - 1), rawInt (n : Int), rawInt (-1)] }
theorem call_range_reversed {r : Addr} {n : Nat} {x y z : Tok} {Q : Value → Shared → Prop} (hr : IsRange s.heap r 0 (n : Int) 1 x y z) (hn : n ≤ 1000)
    (h : Q (.ref s.heap.objs.size) { s with heap := s.heap.push (revRange n) }) : wpAny (model prog w) A (call (.builtin "range.__reversed__") [.ref r]) Q E s := by
  have hT : s.TypeIs (.ref r) "range" := ⟨_, hr, rfl⟩
  have hsz : Builtin.Range.rangeSize 0 (n : Int) 1 = (n : Int) := by
    unfold Builtin.Range.rangeSize
    rw [if_pos (by decide)]
    split <;> omega
  have fit : ∀ i : Int, -2000 ≤ i → i ≤ 2000 → Builtin.Range.rangeFitsLong i = true := fun i h1 h2 => by
    unfold Builtin.Range.rangeFitsLong
    rw [Bool.and_eq_true, decide_eq_true_eq, decide_eq_true_eq]; omega
  have sm : (Builtin.Range.rangeFitsLong 0 && Builtin.Range.rangeFitsLong (n : Int) && Builtin.Range.rangeFitsLong 1 && Builtin.Range.rangeFitsLong (-1) && Builtin.Range.rangeFitsLong (0 - 1) && Builtin.Range.rangeFitsLong (Builtin.Range.rangeSize 0 (n : Int) 1)) = true := by
    rw [hsz, fit 0 (by omega) (by omega), fit n (by omega) (by omega), fit 1 (by omega) (by omega), fit (-1) (by omega) (by omega), fit (0 - 1) (by omega) (by omega)]; rfl
  refine call_meets F.slot_range_reversed hT F.entry_range_reversed (F.args_range_reversed_1 _) (range_reversedM r 0 n 1 x y z (by rw [sm]; decide)) ⟨hr, ?_⟩
  rw [if_pos sm, hsz]
  have e : (0 : Int) + ((n : Int) - 1) * 1 = (n : Int) - 1 := by omega
  rw [e]
  exact h
theorem code_reversed_range {r : Addr} {n : Nat} {x y z : Tok} {Q₁ : Value → Shared → Prop} (hr : IsRange s.heap r 0 (n : Int) 1 x y z) (hn : n ≤ 1000)
    (h : Q₁ (.ref s.heap.objs.size) { s with heap := s.heap.push (revRange n) }) :
    codeAny (model prog w) A (.call (.builtin "reversed.__new__") ⟨[.type "reversed", .ref r], []⟩) (wants Q₁ E) s := by
  have hT : s.TypeIs (.ref r) "range" := ⟨_, hr, rfl⟩
  refine codeAny_of_tree ?_
  show wpAny _ A.in1 (do checkBuiltinCall "reversed.__new__" ⟨[.type "reversed", .ref r], []⟩; again (.builtin "reversed.__new__" ⟨[.type "reversed", .ref r], []⟩)) _ _ s
  refine wpAny_bind (wpAny_of_eq (F.newCall_reversed_1 _) (wpAny_pure ⟨plainId_quiet F.plain_reversed_new _, codeAny_builtin F.entry_reversed_new ?_⟩))
  rw [Around.under_plainId F.plain_reversed_new _]
  unfold Builtin.«reversed.__new__»
  refine wpAny_bind (wpAny_of_eq (newClass_reversed _) ?_)
  try dsimp only
  refine wpAny_bind (wpAny_of_eq (a := ()) (by first | rfl | kernel_rfl) ?_)
  refine wpAny_bind (wpAny_of_eq (a := ()) (by first | rfl | kernel_rfl) ?_)
  try dsimp only
  refine wpAny_bind (wpAny_specialOf hT F.slot_range_reversed.lookup ?_)
  try dsimp only
  refine wpAny_bind (wpAny_of_eq (F.slot_range_reversed.bind _) ?_)
  try dsimp only
  first
  | rw [if_neg (show ¬ ((Value.builtin "range.__reversed__" == Value.none) = true) from Bool.false_ne_true)]
  | (show wpAny _ _ (if (Value.builtin "range.__reversed__" == Value.none) = true then _ else _) _ _ _; rw [if_neg (show ¬ ((Value.builtin "range.__reversed__" == Value.none) = true) from Bool.false_ne_true)])
  refine wpAny_bind (wpAny_rule ?_)
  refine wpAny_bind (m := runValue (.call (.builtin "range.__reversed__") ⟨[.ref r], []⟩)) (show wpAny _ _ (call (.builtin "range.__reversed__") [.ref r]) _ _ _ from call_range_reversed hr hn ?_)
  first
  | exact wpAny_pure h
  | exact wpAny_bind (wpAny_pure (wpAny_pure h))
theorem call_reversed_range {r : Addr} {n : Nat} {x y z : Tok} {Q : Value → Shared → Prop} (hr : IsRange s.heap r 0 (n : Int) 1 x y z) (hn : n ≤ 1000)
    (h : Q (.ref s.heap.objs.size) { s with heap := s.heap.push (revRange n) }) : wpAny (model prog w) A (call (.type "reversed") [.ref r]) Q E s := by
  refine callType_other (U := "range_iterator") (Q₁ := fun obj s₁ => obj = .ref s.heap.objs.size ∧ s₁ = { s with heap := s.heap.push (revRange n) }) (by decide +kernel) F.create_reversed ⟨_, _, F.mro_reversed⟩ F.made_reversed sub_ri_reversed (F.typeCall_reversed_1 _) (code_reversed_range hr hn ⟨rfl, rfl⟩) ?_
  rintro obj s₁ ⟨rfl, rfl⟩
  exact ⟨⟨_, Heap.get?_push_size _ rfl, rfl⟩, h⟩
end
section
variable {prog : Program} {w : World} {A : Around} {s : Shared} {h₀ h : Heap} {env : Env} {fr : Locals} {nw nw' : Led} {t : Nat}
/-- for x in reversed(range(n)) -/
theorem q_forRev {Q : Flow → Shared → Prop} {E : Value → Shared → Prop} {target iter : Expr} {body : List Stmt} {pos : Pos} (n : Nat)
    (hA : A.handled = none) (Inv : Nat → Locals → Led → Prop)
    (hev : wpAny (model prog w) A (eval iter env) (fun x s₁ => ∃ h₁ t₁ fr nw, x = .ref h₁.objs.size ∧ s₁ = sh s (h₁.push (revRange n)) t₁ ∧ St h₀ env h₁ fr nw ∧ Inv 0 fr nw) E (sh s h t))
    (turn : ∀ (i : Nat) u h₁ h fr nw t, i < n → Inv i fr nw → Keep h₀ h₁ → St h₁ env h fr nw →
      wpAny (model prog w) A (assign target env (.int ((n - 1 - i : Nat) : Int) u)) (fun _ s₂ => wpAny (model prog w) A (execs body env) (fun f s₃ => match f with
        | .next | .cont => ∃ h' fr' nw' t', s₃ = sh s h' t' ∧ St h₁ env h' fr' nw' ∧ Inv (i + 1) fr' nw'
        | .brk => Q .next s₃
        | .ret v => Q (.ret v) s₃) (fun _ _ => False) s₂) (fun _ _ => False) (sh s h t))
    (done : ∀ h fr nw t, Inv n fr nw → St h₀ env h fr nw → Q .next (sh s h t))
    (hs : ∀ x, foldedSetIterable iter env x = pure x := by intro _; rfl)
    (ht : ∀ I v, letOwnedTupleGo target (.ref I) v = pure () := by intro _ _; rfl) :
    wpAny (model prog w) A (exec (.For target iter body [] pos) env) Q E (sh s h t) := by
  refine wpAny_For (wpAny_mono hev (fun x s₁ hx => ?_) fun _ _ x => x) hs
  obtain ⟨h₁, t₁, fr, nw, rfl, rfl, S, hI⟩ := hx
  have hit : IsRangeIter (h₁.push (revRange n)) h₁.objs.size ((n : Int) - 1) n (-1) := Heap.get?_push_size h₁ (o := revRange n) rfl
  refine wpAny_pyIter_rangeiter (s := sh s (h₁.push (revRange n)) t₁) hit ?_
  refine q_loop (Walks.range hA h₁.objs.size ((n : Int) - 1) (-1) n) ?_ (S.keeps (Keep.push h₁ _)) ?_ S.newOff Inv hI (fun i v h₂ h fr nw t hi hP hI k S => ?_) (fun h fr nw t hI S => done h fr nw t hI S) (ht _)
  · intro i h' hJ b hb
    rw [List.mem_singleton] at hb
    subst hb
    exact ⟨_, hJ⟩
  · have : IsRangeIter (h₁.push (revRange n)) h₁.objs.size ((n : Int) - 1 + ((0 : Nat) : Int) * (-1)) ((n : Int) - ((0 : Nat) : Int)) (-1) := by
      simpa using hit
    exact this
  · obtain ⟨u, rfl⟩ := hP
    have e : (n : Int) - 1 + (i : Int) * (-1) = ((n - 1 - i : Nat) : Int) := by omega
    rw [e]
    exact turn i u h₂ h fr nw t hi hI k S
/-- a call has turned the object at a, and kept all others -/
theorem St.turnX {h' : Heap} (S : St h₀ env h fr nw) {a : Addr} {o : Obj} (ht : Turn nw a o nw') (hs : ∀ b o, b ≠ a → h.get? b = some o → h'.get? b = some o) (hg : h'.get? a = some o) : St h₀ env h' fr nw' := by
  obtain ⟨u, hu⟩ := ht.old
  have na := S.ne hu
  have q := List.nodup_cons.mp S.ndn
  refine ⟨S.fn, let ⟨m, x, y⟩ := S.ns; ⟨m, x.at' fun o e => hs _ o (Ne.symm na) e, y⟩, S.nd, S.kd, ?_, S.apart, ?_, by rw [ht.names]; exact S.ndn⟩
  · intro b ob e
    exact hs b ob (fun z => by rw [z, (S.new _ hu).2] at e; cases e) (S.keep b ob e)
  · intro p hp
    rcases ht.at q.2 p hp with ⟨x, y⟩ | ⟨x, y⟩
    · rw [x, y]; exact ⟨hg, (S.new _ hu).2⟩
    · exact ⟨hs p.1 _ x (S.new p y).1, (S.new p y).2⟩
variable {E : Value → Shared → Prop}
theorem q_shr {a n : Int} {p q : Tok} {Q : Value → Shared → Prop} (hn : 0 ≤ n) (k : ∀ u t', Q (.int (a.fdiv (2 ^ n.toNat)) u) (sh s h t')) : wpAny (model prog w) A (binaryOp .RShift (.int a p) (.int n q)) Q E (sh s h t) :=
  rshift_int hn (k _ _)
theorem q_truthyL {l : Addr} {vs : List Value} {Q : Bool → Shared → Prop} (hl : h.IsList l vs.toArray) (hsz : vs.length ≤ 1000) (k : ∀ t', Q (!vs.isEmpty) (sh s h t')) : wpAny (model prog w) A (truthy (.ref l)) Q E (sh s h t) :=
  wpAny_truthy_list (s := sh s h t) hl (by simp; omega) (by simpa using k _)
/-- the last of a list -/
theorem q_pop {pos : Pos} {l : Addr} {vs : List Value} {y : Value} {ep : Nat} {nwOf : Nat → Led} {Q : Value → Shared → Prop} (S : St h₀ env h fr nw) (hm : (l, listObj (vs ++ [y]) ep) ∈ nw) (hsz : vs.length ≤ 999) (ht : ∀ ep', Turn nw l (listObj vs ep') (nwOf ep'))
    (k : ∀ ep' h' t', St h₀ env h' fr (nwOf ep') → Q y (sh s h' t')) : wpAny (model prog w) A (callWith pos (.builtin "list.pop") [.ref l] [] []) Q E (sh s h t) := by
  have hl : h.get? l = some (PySem.W.listOf (vs ++ [y]).toArray ep) := S.get hm
  refine P.pop_list (y := y) (items := (vs ++ [y]).toArray) (n := ep) (s := sh s h t) hl (by simp) ?_ (by have := sizeLine_big; simp; omega)
  refine k (ep + 1) _ _ (S.turn (ht _) (Heap.SameBut.update ..) ?_)
  refine (Heap.get?_update_self _ hl ?_).trans ?_
  · rfl
  · have e : (vs ++ [y]).eraseIdx vs.length = vs := by rw [List.eraseIdx_append_of_length_le (Nat.le_refl _)]; simp
    simp [Obj.mapSeq, listObj, Array.eraseIdxIfInBounds, e]
end
end
section
open PySem PySem.W PySem.Spec PySem.Calls PyProof.Rows
set_option maxRecDepth 100000
set_option maxHeartbeats 4000000
/-- five pairs (st i, i) -/
def Tags (h : Heap) (ad : Fin 5 → Addr) (st : Fin 5 → Int) : Prop := ∀ i : Fin 5, ∃ ta tc, h.get? (ad i) = some (tupObj [.int (st i) ta, .int (i.val : Int) tc])
theorem Tags.keeps {h h' : Heap} {ad : Fin 5 → Addr} {st : Fin 5 → Int} (x : Tags h ad st) (k : Keep h h') : Tags h' ad st := fun i => let ⟨a, b, c⟩ := x i; ⟨a, b, k _ _ c⟩
def ltT (st : Fin 5 → Int) (i j : Fin 5) : Bool := ltP (st i) i.val (st j) j.val
def refs (ad : Fin 5 → Addr) (L : List (Fin 5)) : List Value := L.map fun i => Value.ref (ad i)
theorem refs_get {ad : Fin 5 → Addr} {L : List (Fin 5)} {p : Nat} (hp : p < L.length) : (refs ad L)[p]? = some (.ref (ad (L.getD p 0))) := by
  unfold refs; rw [List.getElem?_map, List.getD_eq_getElem?_getD, List.getElem?_eq_getElem hp]; rfl
theorem refs_set (ad : Fin 5 → Addr) (L : List (Fin 5)) (p : Nat) (i : Fin 5) : (refs ad L).set p (.ref (ad i)) = refs ad (L.set p i) := by unfold refs; rw [List.map_set]
theorem refs_len (ad : Fin 5 → Addr) (L : List (Fin 5)) : (refs ad L).length = L.length := List.length_map _
def sdGo (lt : Fin 5 → Fin 5 → Bool) (new : Fin 5) (start : Nat) : Nat → List (Fin 5) → Nat → List (Fin 5)
  | 0, L, p => L.set p new
  | f + 1, L, p => if p > start then (if lt new (L.getD ((p - 1) / 2) 0) = true then sdGo lt new start f (L.set p (L.getD ((p - 1) / 2) 0)) ((p - 1) / 2) else L.set p new) else L.set p new
def sdF (lt : Fin 5 → Fin 5 → Bool) (start p : Nat) (L : List (Fin 5)) : List (Fin 5) := sdGo lt (L.getD p 0) start p L p
theorem sdGo_stop {lt : Fin 5 → Fin 5 → Bool} {new : Fin 5} {start f : Nat} {L : List (Fin 5)} {p : Nat} (h : ¬ p > start) : sdGo lt new start f L p = L.set p new := by
  cases f with
  | zero => rfl
  | succ f => unfold sdGo; rw [if_neg h]
theorem shr1 {p : Nat} (h : 0 < p) : ((p : Int) - 1).fdiv (2 ^ (1 : Int).toNat) = (((p - 1) / 2 : Nat) : Int) := by
  have e : ((p : Int) - 1) = ((p - 1 : Nat) : Int) := by omega
  rw [e, Int.fdiv_eq_ediv_of_nonneg _ (by decide)]; rfl
/-- a list that a call may turn, taken out of what stands -/
theorem takeOut (h : Heap) (H : Addr) : ∃ hb, Keep hb h ∧ hb.get? H = none ∧ ∀ b o, b ≠ H → h.get? b = some o → hb.get? b = some o := by
  obtain ⟨hb, e1, e2⟩ := erase_ex h [H]
  refine ⟨hb, fun b o e => ?_, e1 H List.mem_cons_self, fun b o hn e => by rw [e2 b (by simpa using hn)]; exact e⟩
  by_cases z : b = H
  · rw [z, e1 H List.mem_cons_self] at e; cases e
  · rw [← e2 b (by simpa using z)]; exact e
theorem Tags.out {h hb : Heap} {H : Addr} {vs : List Value} {ep : Nat} {ad : Fin 5 → Addr} {st : Fin 5 → Int} (T : Tags h ad st) (hH : h.get? H = some (listObj vs ep)) (hk : ∀ b o, b ≠ H → h.get? b = some o → hb.get? b = some o) : Tags hb ad st := fun i => by
  obtain ⟨a, b, c⟩ := T i
  refine ⟨a, b, hk _ _ (fun z => ?_) c⟩
  rw [z, hH] at c
  simp [listObj, tupObj] at c
section
variable {prog : Program} {w : World} {A : Around} {Q E : Value → Shared → Prop} {s : Shared} {h : Heap} {t : Nat}
theorem siftdown_spec {H : Addr} {L : List (Fin 5)} {ad : Fin 5 → Addr} {st : Fin 5 → Int} {start p ep : Nat} {u1 u2 : Tok} (R : Rm A 1 3) (G : Gl w h) (hH : h.get? H = some (listObj (refs ad L) ep)) (T : Tags h ad st) (hp : p < L.length) (hL : L.length ≤ 100)
    (k : ∀ h' t' ep', (∀ b o, b ≠ H → h.get? b = some o → h'.get? b = some o) → h'.get? H = some (listObj (refs ad (sdF (ltT st) start p L)) ep') → Q .none (sh s h' t')) :
    wpAny (model prog w) A (call (.ref 49) [.ref H, .int start u1, .int p u2]) Q E (sh s h t) := by
  refine q_call (d := 0) (u := 0) [Str.ofString "heap", Str.ofString "startpos", Str.ofString "pos", Str.ofString "newitem", Str.ofString "parentpos", Str.ofString "parent"] [Str.ofString "heap", Str.ofString "startpos", Str.ofString "pos"]
    [(Str.ofString "heap", some (.ref H)), (Str.ofString "startpos", some (.int start u1)), (Str.ofString "pos", some (.int p u2)), (Str.ofString "newitem", none), (Str.ofString "parentpos", none), (Str.ofString "parent", none)]
    R G rfl rfl rfl ⟨rfl, rfl, rfl⟩ rfl (by decide +kernel) rfl ?_
  intro env h₁ tk e R' S'
  obtain ⟨hb, kb, nH, ob⟩ := takeOut h H
  have S := S'.opened kb [(H, listObj (refs ad L) ep)] (fun q hq => by rw [List.mem_singleton] at hq; subst hq; exact ⟨hH, nH⟩) (by simp)
  have Tb := T.out hH ob
  have hz : ∀ L' : List (Fin 5), L'.length = L.length → (refs ad L').length ≤ 1000 := fun L' e => by rw [refs_len, e]; omega
  refine wpAny_execs_cons (wpAny_Assign_Name (Subscript_ (q_ld S (by walk_at "has") (q_ld S (by walk_at "has") (q_item (isList_of (S.get (by walk_at "mem"))) (by omega) (by omega) (refs_get (p := p) hp) (q_st S (by walk_at "put") fun h₂ t₂ S₂ => ?_))))))
  refine q_cutA (fun s' => ∃ h' t' L' p' up x5 x6, s' = sh s h' t' ∧ St hb env h' [(Str.ofString "heap", some (.ref H)), (Str.ofString "startpos", some (.int start u1)), (Str.ofString "pos", some (.int ((p' : Nat) : Int) up)), (Str.ofString "newitem", some (.ref (ad (L.getD p 0)))), (Str.ofString "parentpos", x5), (Str.ofString "parent", x6)] [(H, listObj (refs ad L') ep)] ∧ p' < L'.length ∧ L'.length = L.length ∧ L'.set p' (L.getD p 0) = sdF (ltT st) start p L) (fun Q' hQ => ?_) ?_
  · refine q_while (fun k s' => ∃ h' t' L' p' up x5 x6, s' = sh s h' t' ∧ St hb env h' [(Str.ofString "heap", some (.ref H)), (Str.ofString "startpos", some (.int start u1)), (Str.ofString "pos", some (.int ((p' : Nat) : Int) up)), (Str.ofString "newitem", some (.ref (ad (L.getD p 0)))), (Str.ofString "parentpos", x5), (Str.ofString "parent", x6)] [(H, listObj (refs ad L') ep)] ∧
      p' < L'.length ∧ L'.length = L.length ∧ p' ≤ k ∧ sdGo (ltT st) (L.getD p 0) start k L' p' = sdF (ltT st) start p L) ?_ p ⟨_, _, L, p, _, _, _, rfl, S₂, hp, rfl, Nat.le_refl _, rfl⟩
    rintro k' s' ⟨h₃, t₃, L', p', up, x5, x6, rfl, S₃, hp', hl', hk', hgo⟩ K hK
    refine wpAny_isTrue_Compare1 (q_ld S₃ (by walk_at "has") (q_ld S₃ (by walk_at "has") (q_gt (wpAny_truthy_bool ⟨fun hgt => ?_, fun hgt => ?_⟩))))
    · have hgt := of_decide_eq_true hgt
      have hgt' : p' > start := by omega
      obtain ⟨j, rfl⟩ : ∃ j, k' = j + 1 := ⟨k' - 1, by omega⟩
      rw [sdGo, if_pos hgt'] at hgo
      have hpp : (p' - 1) / 2 < L'.length := by omega
      refine wpAny_execs_cons (wpAny_Assign_Name (wpAny_BinOp (wpAny_BinOp (q_ld S₃ (by walk_at "has") (q_cint fun _ _ => q_sub fun _ _ => q_cint fun _ _ => q_shr (by decide) fun u5 _ => ?_)))))
      rw [shr1 (by omega)]
      refine q_st S₃ (by walk_at "put") fun h₄ t₄ S₄ => ?_
      refine wpAny_execs_cons (wpAny_Assign_Name (Subscript_ (q_ld S₄ (by walk_at "has") (q_ld S₄ (by walk_at "has") (q_item (isList_of (S₄.get (by walk_at "mem"))) (by omega) (by omega) (refs_get (p := (p' - 1) / 2) hpp) (q_st S₄ (by walk_at "put") fun h₅ t₅ S₅ => ?_))))))
      obtain ⟨ta, tc, hnew⟩ := (Tb.keeps S₅.keep) (L.getD p 0)
      obtain ⟨ta', tc', hpar⟩ := (Tb.keeps S₅.keep) (L'.getD ((p' - 1) / 2) 0)
      refine wpAny_execs_cons (q_if (wpAny_isTrue_Compare1 (q_ld S₅ (by walk_at "has") (q_ld S₅ (by walk_at "has") (q_ltt (by have := R'.un; omega) hnew hpar (wpAny_truthy_bool ⟨fun hlt => ?_, fun hlt => ?_⟩))))))
      · have hlt' : ltT st (L.getD p 0) (L'.getD ((p' - 1) / 2) 0) = true := hlt
        rw [if_pos hlt'] at hgo
        refine wpAny_execs_cons (wpAny_Assign_Subscript (q_ld S₅ (by walk_at "has") (q_ld S₅ (by walk_at "has") (q_ld S₅ (by walk_at "has") (q_seti S₅ (by walk_at "mem") (by omega) (by rw [refs_len]; omega) (hz _ hl') (nwOf := [(H, listObj (refs ad (L'.set p' (L'.getD ((p' - 1) / 2) 0))) ep)]) (by rw [Int.toNat_natCast, refs_set]; walk_at "turn") fun h₆ S₆ => ?_)))))
        refine wpAny_execs_cons (wpAny_Assign_Name (q_ld S₆ (by walk_at "has") (q_st S₆ (by walk_at "put") fun h₇ t₇ S₇ => ?_)))
        exact wpAny_execs_cons (wpAny_Continue (hK j _ (Nat.lt_succ_self _) ⟨h₇, t₇, _, _, _, _, _, rfl, S₇, by rw [List.length_set]; exact hpp, by rw [List.length_set]; exact hl', by omega, hgo⟩))
      · have hlt' : ¬ ltT st (L.getD p 0) (L'.getD ((p' - 1) / 2) 0) = true := by unfold ltT; rw [hlt]; decide
        rw [if_neg hlt'] at hgo
        exact wpAny_execs_nil (wpAny_execs_cons (wpAny_Break (hQ _ ⟨h₅, t₅, _, _, _, _, _, rfl, S₅, hp', hl', hgo⟩)))
    · have hgt := of_decide_eq_false hgt
      rw [sdGo_stop (by omega)] at hgo
      exact hQ _ ⟨h₃, t₃, _, _, _, _, _, rfl, S₃, hp', hl', hgo⟩
  · rintro _ ⟨h₃, t₃, L', p', up, x5, x6, rfl, S₃, hp', hl', hgo⟩
    refine wpAny_execs_cons (wpAny_Assign_Subscript (q_ld S₃ (by walk_at "has") (q_ld S₃ (by walk_at "has") (q_ld S₃ (by walk_at "has") (q_seti S₃ (by walk_at "mem") (by omega) (by rw [refs_len]; omega) (hz _ hl') (nwOf := [(H, listObj (refs ad (L'.set p' (L.getD p 0))) ep)]) (by rw [Int.toNat_natCast, refs_set]; walk_at "turn") fun h₆ S₆ => ?_)))))
    refine wpAny_execs_nil (k _ _ ep (fun b o hn e => S₆.keep b o (ob b o hn e)) ?_)
    rw [← hgo]
    exact S₆.get (by walk_at "mem")
end
end
section
open PySem PySem.W PySem.Spec PySem.Calls PyProof.Rows
set_option maxRecDepth 100000
set_option maxHeartbeats 4000000
theorem Gl.out {w : World} {g h hb : Heap} {H : Addr} (G : Gl w g) (kg : Keep g h) (ng : g.get? H = none) (hk : ∀ b o, b ≠ H → h.get? b = some o → hb.get? b = some o) : Gl w hb :=
  G.keeps fun b o e => hk b o (fun z => by rw [z, ng] at e; cases e) (kg b o e)
theorem g_siftdown (P : Params) : nsFind (globE P) (Str.ofString "_siftdown") = some (.ref 49) := by rfl
theorem g_siftup (P : Params) : nsFind (globE P) (Str.ofString "_siftup") = some (.ref 56) := by rfl
theorem keep_siftdown (P : Params) : keepIn (hd.heap_39 P) (.ref 49) = true := by rfl
theorem keep_siftup (P : Params) : keepIn (hd.heap_39 P) (.ref 56) = true := by rfl
/-- f(..), f a def of the text -/
theorem q_fn {prog : Program} {w : World} {A : Around} {E : Value → Shared → Prop} {s : Shared} {t : Nat} {h₀ h : Heap} {env : Env} {fr : Locals} {nw : Led} {scope : Scope} {cells : List (Str × Addr)} {x : Str} {p pos : Pos} {Q : Value → Shared → Prop} {f : Addr} {e₁ : Expr} {rest : List Expr}
    (G : Gl w h) (S : St h₀ env h fr nw) (e : EnvIs env scope cells) (hg : nsFind (globE w.params) x = some (.ref f)) (hkp : keepIn (hd.heap_39 w.params) (.ref f) = true)
    (k : wpAny (model prog w) A (spliced (backTo pos (starEach (e₁ :: rest) env))) (fun vs s₁ => (KK w).In s₁.heap ∧ wpAny (model prog w) A (call (.ref f) vs) Q E s₁) E (sh s h t))
    (hk : scope.names.lookup x = some .globalImplicit := by rfl) (hd' : (x == ("__debug__" : Str)) = false := by decide +kernel)
    (he : starEach (e₁ :: rest) env = (false, eval e₁ env) :: starEach rest env := by rfl) (hplain : (backTo pos (starEach rest env)).any (·.1) = false := by rfl) :
    wpAny (model prog w) A (eval (.Call (.Name x p) (e₁ :: rest) [] pos) env) Q E (sh s h t) :=
  wpAny_Call_NameR (q_gl G S e hk hg hd' (callWith_K (K := KK w) G.kx hkp k he hplain))
def suC (lt : Fin 5 → Fin 5 → Bool) (n : Nat) (L : List (Fin 5)) (p : Nat) : Nat := if 2 * p + 2 < n ∧ lt (L.getD (2 * p + 1) 0) (L.getD (2 * p + 2) 0) = false then 2 * p + 2 else 2 * p + 1
def suGo (lt : Fin 5 → Fin 5 → Bool) (new : Fin 5) (start n : Nat) : Nat → List (Fin 5) → Nat → List (Fin 5)
  | 0, L, p => sdF lt start p (L.set p new)
  | f + 1, L, p => if 2 * p + 1 < n then suGo lt new start n f (L.set p (L.getD (suC lt n L p) 0)) (suC lt n L p) else sdF lt start p (L.set p new)
def suF (lt : Fin 5 → Fin 5 → Bool) (p : Nat) (L : List (Fin 5)) : List (Fin 5) := suGo lt (L.getD p 0) p L.length L.length L p
theorem suGo_stop {lt : Fin 5 → Fin 5 → Bool} {new : Fin 5} {start n f : Nat} {L : List (Fin 5)} {p : Nat} (h : ¬ 2 * p + 1 < n) : suGo lt new start n f L p = sdF lt start p (L.set p new) := by
  cases f with
  | zero => rfl
  | succ f => unfold suGo; rw [if_neg h]
theorem suC_lt {lt : Fin 5 → Fin 5 → Bool} {n : Nat} {L : List (Fin 5)} {p : Nat} (h : 2 * p + 1 < n) : suC lt n L p < n ∧ p < suC lt n L p := by
  unfold suC; split
  · omega
  · omega
theorem sdGo_len (lt : Fin 5 → Fin 5 → Bool) (new : Fin 5) (start : Nat) : ∀ (f : Nat) (L : List (Fin 5)) (p : Nat), (sdGo lt new start f L p).length = L.length
  | 0, L, p => by unfold sdGo; simp
  | f + 1, L, p => by
    unfold sdGo
    split
    · split
      · rw [sdGo_len lt new start f]; simp
      · simp
    · simp
theorem suGo_len (lt : Fin 5 → Fin 5 → Bool) (new : Fin 5) (start n : Nat) : ∀ (f : Nat) (L : List (Fin 5)) (p : Nat), (suGo lt new start n f L p).length = L.length
  | 0, L, p => by unfold suGo sdF; rw [sdGo_len]; simp
  | f + 1, L, p => by
    unfold suGo
    split
    · rw [suGo_len lt new start n f]; simp
    · unfold sdF; rw [sdGo_len]; simp
section
variable {prog : Program} {w : World} {A : Around} {Q E : Value → Shared → Prop} {s : Shared} {h : Heap} {t : Nat}
theorem siftup_spec {H : Addr} {L : List (Fin 5)} {ad : Fin 5 → Addr} {st : Fin 5 → Int} {p ep : Nat} {u1 : Tok} (R : Rm A 2 6) {g : Heap} (G : Gl w g) (kg : Keep g h) (ng : g.get? H = none) (hH : h.get? H = some (listObj (refs ad L) ep)) (T : Tags h ad st) (hp : p < L.length) (hL : L.length ≤ 100)
    (k : ∀ h' t' ep', (∀ b o, b ≠ H → h.get? b = some o → h'.get? b = some o) → h'.get? H = some (listObj (refs ad (suF (ltT st) p L)) ep') → Q .none (sh s h' t')) :
    wpAny (model prog w) A (call (.ref 56) [.ref H, .int p u1]) Q E (sh s h t) := by
  refine q_call (d := 1) (u := 3) [Str.ofString "heap", Str.ofString "pos", Str.ofString "endpos", Str.ofString "startpos", Str.ofString "newitem", Str.ofString "childpos", Str.ofString "rightpos"] [Str.ofString "heap", Str.ofString "pos"]
    [(Str.ofString "heap", some (.ref H)), (Str.ofString "pos", some (.int p u1)), (Str.ofString "endpos", none), (Str.ofString "startpos", none), (Str.ofString "newitem", none), (Str.ofString "childpos", none), (Str.ofString "rightpos", none)]
    R (G.keeps kg) rfl rfl rfl ⟨rfl, rfl, rfl⟩ rfl (by decide +kernel) rfl ?_
  intro env h₁ tk e R' S'
  obtain ⟨hb, kb, nH, ob⟩ := takeOut h H
  have S := S'.opened kb [(H, listObj (refs ad L) ep)] (fun q hq => by rw [List.mem_singleton] at hq; subst hq; exact ⟨hH, nH⟩) (by simp)
  have Tb := T.out hH ob
  have Gb : ∀ {h' : Heap}, Keep hb h' → Gl w h' := fun k => (G.out kg ng ob).keeps k
  have hz : ∀ L' : List (Fin 5), L'.length = L.length → (refs ad L').length ≤ 1000 := fun L' e => by rw [refs_len, e]; omega
  refine wpAny_execs_cons (wpAny_Assign_Name (wpAny_Call_NameR (q_len (Gb S.keep) S e (PyProof.Rows.callWith_builtin1 (args_cons (q_ld S (by walk_at "has") (args_nil (q_len_list (isList_of (S.get (by walk_at "mem"))) (Nat.le_trans (hz L rfl) sizeLine_big) fun ue _ => ?_))))))))
  rw [refs_len]
  refine q_st S (by walk_at "put") fun h₂ t₂ S₂ => ?_
  refine wpAny_execs_cons (wpAny_Assign_Name (q_ld S₂ (by walk_at "has") (q_st S₂ (by walk_at "put") fun h₃ t₃ S₃ => ?_)))
  refine wpAny_execs_cons (wpAny_Assign_Name (Subscript_ (q_ld S₃ (by walk_at "has") (q_ld S₃ (by walk_at "has") (q_item (isList_of (S₃.get (by walk_at "mem"))) (by omega) (by omega) (refs_get (p := p) hp) (q_st S₃ (by walk_at "put") fun h₄ t₄ S₄ => ?_))))))
  have hc : ∀ q : Nat, (2 : Int) * (q : Int) + 1 = ((2 * q + 1 : Nat) : Int) := fun q => by omega
  refine wpAny_execs_cons (wpAny_Assign_Name (wpAny_BinOp (wpAny_BinOp (q_cint fun _ _ => q_ld S₄ (by walk_at "has") (q_mul (.of_left (by decide)) fun _ _ => q_cint fun _ _ => q_add fun uc0 _ => ?_)))))
  rw [hc p]
  refine q_st S₄ (by walk_at "put") fun h₅ t₅ S₅ => ?_
  refine q_cutA (fun s' => ∃ h' t' L' p' up uc x7, s' = sh s h' t' ∧ St hb env h' [(Str.ofString "heap", some (.ref H)), (Str.ofString "pos", some (.int ((p' : Nat) : Int) up)), (Str.ofString "endpos", some (.int (L.length : Nat) ue)), (Str.ofString "startpos", some (.int p u1)), (Str.ofString "newitem", some (.ref (ad (L.getD p 0)))), (Str.ofString "childpos", some (.int ((2 * p' + 1 : Nat) : Int) uc)), (Str.ofString "rightpos", x7)] [(H, listObj (refs ad L') ep)] ∧ p' < L'.length ∧ L'.length = L.length ∧ sdF (ltT st) p p' (L'.set p' (L.getD p 0)) = suF (ltT st) p L) (fun Q' hQ => ?_) ?_
  · refine q_while (fun k s' => ∃ h' t' L' p' up uc x7, s' = sh s h' t' ∧ St hb env h' [(Str.ofString "heap", some (.ref H)), (Str.ofString "pos", some (.int ((p' : Nat) : Int) up)), (Str.ofString "endpos", some (.int (L.length : Nat) ue)), (Str.ofString "startpos", some (.int p u1)), (Str.ofString "newitem", some (.ref (ad (L.getD p 0)))), (Str.ofString "childpos", some (.int ((2 * p' + 1 : Nat) : Int) uc)), (Str.ofString "rightpos", x7)] [(H, listObj (refs ad L') ep)] ∧
      p' < L'.length ∧ L'.length = L.length ∧ L.length ≤ p' + k ∧ suGo (ltT st) (L.getD p 0) p L.length k L' p' = suF (ltT st) p L) ?_ L.length ⟨_, _, L, p, _, _, _, rfl, S₅, hp, rfl, by omega, rfl⟩
    rintro k' s' ⟨h₃, t₃, L', p', up, uc, x7, rfl, S₃, hp', hl', hk', hgo⟩ K hK
    refine wpAny_isTrue_Compare1 (q_ld S₃ (by walk_at "has") (q_ld S₃ (by walk_at "has") (q_lt (wpAny_truthy_bool ⟨fun hlt => ?_, fun hlt => ?_⟩))))
    · have hlt := of_decide_eq_true hlt
      have hlt' : 2 * p' + 1 < L.length := by omega
      obtain ⟨j, rfl⟩ : ∃ j, k' = j + 1 := ⟨k' - 1, by omega⟩
      rw [suGo, if_pos hlt'] at hgo
      obtain ⟨hc1, hc2⟩ := suC_lt (lt := ltT st) (L := L') hlt'
      have hr : ((2 * p' + 1 : Nat) : Int) + 1 = ((2 * p' + 2 : Nat) : Int) := by omega
      refine wpAny_execs_cons (wpAny_Assign_Name (wpAny_BinOp (q_ld S₃ (by walk_at "has") (q_cint fun _ _ => q_add fun ur _ => ?_))))
      rw [hr]
      refine q_st S₃ (by walk_at "put") fun h₄ t₄ S₄ => ?_
      refine q_cutA (fun s' => ∃ h' t' uc, s' = sh s h' t' ∧ St hb env h' [(Str.ofString "heap", some (.ref H)), (Str.ofString "pos", some (.int ((p' : Nat) : Int) up)), (Str.ofString "endpos", some (.int (L.length : Nat) ue)), (Str.ofString "startpos", some (.int p u1)), (Str.ofString "newitem", some (.ref (ad (L.getD p 0)))), (Str.ofString "childpos", some (.int ((suC (ltT st) L.length L' p' : Nat) : Int) uc)), (Str.ofString "rightpos", some (.int ((2 * p' + 2 : Nat) : Int) ur))] [(H, listObj (refs ad L') ep)]) (fun Q2 hQ2 => ?_) ?_
      · refine q_if (q_allTrue2 (wpAny_isTrue_Compare1 (q_ld S₄ (by walk_at "has") (q_ld S₄ (by walk_at "has") (q_lt (wpAny_truthy_bool ⟨fun hr1 => ?_, fun hr1 => ?_⟩))))))
        · have hr1' : 2 * p' + 2 < L.length := by have := of_decide_eq_true hr1; omega
          obtain ⟨ta, tc, hleft⟩ := (Tb.keeps S₄.keep) (L'.getD (2 * p' + 1) 0)
          obtain ⟨ta', tc', hright⟩ := (Tb.keeps S₄.keep) (L'.getD (2 * p' + 2) 0)
          refine wpAny_isTrue_Not (wpAny_isTrue_Compare1 (Subscript_ (q_ld S₄ (by walk_at "has") (q_ld S₄ (by walk_at "has") (q_item (isList_of (S₄.get (by walk_at "mem"))) (by omega) (by omega) (refs_get (L := L') (p := 2 * p' + 1) (by omega)) ?_)))))
          refine Subscript_ (q_ld S₄ (by walk_at "has") (q_ld S₄ (by walk_at "has") (q_item (isList_of (S₄.get (by walk_at "mem"))) (by omega) (by omega) (refs_get (L := L') (p := 2 * p' + 2) (by omega)) (q_ltt (by have := R'.un; omega) hleft hright (wpAny_truthy_bool ⟨fun hn => ?_, fun hn => ?_⟩)))))
          · have hn' : ltT st (L'.getD (2 * p' + 1) 0) (L'.getD (2 * p' + 2) 0) = false := by unfold ltT; simpa using hn
            have es : suC (ltT st) L.length L' p' = 2 * p' + 2 := by unfold suC; rw [if_pos ⟨hr1', hn'⟩]
            refine wpAny_execs_cons (wpAny_Assign_Name (q_ld S₄ (by walk_at "has") (q_st S₄ (by walk_at "put") fun h₅ t₅ S₅ => ?_)))
            rw [es] at hQ2
            exact wpAny_execs_nil (hQ2 _ ⟨h₅, t₅, _, rfl, S₅⟩)
          · have hn' : ¬ ltT st (L'.getD (2 * p' + 1) 0) (L'.getD (2 * p' + 2) 0) = false := by unfold ltT; simpa using hn
            have es : suC (ltT st) L.length L' p' = 2 * p' + 1 := by unfold suC; rw [if_neg fun z => hn' z.2]
            rw [es] at hQ2
            exact wpAny_execs_nil (hQ2 _ ⟨h₄, _, _, rfl, S₄⟩)
        · have hr1' : ¬ 2 * p' + 2 < L.length := by have := of_decide_eq_false hr1; omega
          have es : suC (ltT st) L.length L' p' = 2 * p' + 1 := by unfold suC; rw [if_neg fun z => hr1' z.1]
          rw [es] at hQ2
          exact ⟨fun z => (by cases z), fun _ => wpAny_execs_nil (hQ2 _ ⟨h₄, _, _, rfl, S₄⟩)⟩
      · rintro _ ⟨h₅, t₅, uc', rfl, S₅⟩
        generalize suC (ltT st) L.length L' p' = c at *
        refine wpAny_execs_cons (wpAny_Assign_Subscript (Subscript_ (q_ld S₅ (by walk_at "has") (q_ld S₅ (by walk_at "has") (q_item (isList_of (S₅.get (by walk_at "mem"))) (by omega) (by omega) (refs_get (L := L') (p := c) (by omega)) ?_)))))
        refine q_ld S₅ (by walk_at "has") (q_ld S₅ (by walk_at "has") (q_seti S₅ (by walk_at "mem") (by omega) (by rw [refs_len]; omega) (hz _ hl') (nwOf := [(H, listObj (refs ad (L'.set p' (L'.getD c 0))) ep)]) (by rw [Int.toNat_natCast, refs_set]; walk_at "turn") fun h₆ S₆ => ?_))
        refine wpAny_execs_cons (wpAny_Assign_Name (q_ld S₆ (by walk_at "has") (q_st S₆ (by walk_at "put") fun h₇ t₇ S₇ => ?_)))
        refine wpAny_execs_cons (wpAny_Assign_Name (wpAny_BinOp (wpAny_BinOp (q_cint fun _ _ => q_ld S₇ (by walk_at "has") (q_mul (.of_left (by decide)) fun _ _ => q_cint fun _ _ => q_add fun uc1 _ => ?_)))))
        rw [hc c]
        refine q_st S₇ (by walk_at "put") fun h₈ t₈ S₈ => ?_
        exact wpAny_execs_nil (hK j _ (Nat.lt_succ_self _) ⟨h₈, t₈, _, c, _, _, _, rfl, S₈, by rw [List.length_set]; omega, by rw [List.length_set]; exact hl', by omega, hgo⟩)
    · have hlt := of_decide_eq_false hlt
      rw [suGo_stop (by omega)] at hgo
      exact hQ _ ⟨h₃, t₃, _, _, _, _, _, rfl, S₃, hp', hl', hgo⟩
  · rintro _ ⟨h₃, t₃, L', p', up, uc, x7, rfl, S₃, hp', hl', hgo⟩
    refine wpAny_execs_cons (wpAny_Assign_Subscript (q_ld S₃ (by walk_at "has") (q_ld S₃ (by walk_at "has") (q_ld S₃ (by walk_at "has") (q_seti S₃ (by walk_at "mem") (by omega) (by rw [refs_len]; omega) (hz _ hl') (nwOf := [(H, listObj (refs ad (L'.set p' (L.getD p 0))) ep)]) (by rw [Int.toNat_natCast, refs_set]; walk_at "turn") fun h₆ S₆ => ?_)))))
    refine wpAny_execs_cons (q_expr S₆ (q_fn (Gb S₆.keep) S₆ e (g_siftdown _) (keep_siftdown _) (args_cons (q_ld S₆ (by walk_at "has") (args_cons (q_ld S₆ (by walk_at "has") (args_cons (q_ld S₆ (by walk_at "has") (args_nil ⟨(Gb S₆.keep).kx, ?_⟩)))))))))
    refine siftdown_spec R' (Gb S₆.keep) (S₆.get (by walk_at "mem")) (Tb.keeps S₆.keep) (by rw [List.length_set]; exact hp') (by rw [List.length_set]; omega) fun h₇ t₇ ep' hk hg => ?_
    have S₇ := S₆.turnX (nw' := [(H, listObj (refs ad (sdF (ltT st) p p' (L'.set p' (L.getD p 0)))) ep')]) (by walk_at "turn") hk hg
    refine wpAny_execs_nil (k _ _ ep' (fun b o hn e => S₇.keep b o (ob b o hn e)) ?_)
    rw [← hgo]
    exact S₇.get (by walk_at "mem")
end
end
section
open PySem PySem.W PySem.Spec PySem.Calls PyProof.Rows
set_option maxRecDepth 100000
set_option maxHeartbeats 4000000
theorem g_heapify (P : Params) : nsFind (globE P) (Str.ofString "heapify") = some (.ref 42) := by rfl
theorem g_heappop (P : Params) : nsFind (globE P) (Str.ofString "heappop") = some (.ref 35) := by rfl
theorem keep_heapify (P : Params) : keepIn (hd.heap_39 P) (.ref 42) = true := by rfl
theorem keep_heappop (P : Params) : keepIn (hd.heap_39 P) (.ref 35) = true := by rfl
def hfN (lt : Fin 5 → Fin 5 → Bool) (m : Nat) (L : List (Fin 5)) : Nat → List (Fin 5)
  | 0 => L
  | j + 1 => suF lt (m - 1 - j) (hfN lt m L j)
def hfF (lt : Fin 5 → Fin 5 → Bool) (L : List (Fin 5)) : List (Fin 5) := hfN lt (L.length / 2) L (L.length / 2)
theorem suF_len (lt : Fin 5 → Fin 5 → Bool) (p : Nat) (L : List (Fin 5)) : (suF lt p L).length = L.length := suGo_len ..
theorem hfN_len (lt : Fin 5 → Fin 5 → Bool) (m : Nat) (L : List (Fin 5)) : ∀ j, (hfN lt m L j).length = L.length
  | 0 => rfl
  | j + 1 => by unfold hfN; rw [suF_len, hfN_len lt m L j]
/-- what heappop leaves -/
def popL (lt : Fin 5 → Fin 5 → Bool) (L : List (Fin 5)) (y : Fin 5) : List (Fin 5) := if L.isEmpty then [] else suF lt 0 (L.set 0 y)
def popV (L : List (Fin 5)) (y : Fin 5) : Fin 5 := if L.isEmpty then y else L.getD 0 0
section
variable {prog : Program} {w : World} {A : Around} {Q E : Value → Shared → Prop} {s : Shared} {h : Heap} {t : Nat}
theorem q_listmeth {l : Addr} {vs : List Value} {pl : Sem Bool} {name : Str} {id : String} {Q : Value × List Value → Shared → Prop} {ep : Nat} (hl : h.get? l = some (listObj vs ep)) (slot : Slot "list" name id) (ht : typeOf (.builtin id) = pure (.type "method_descriptor"))
    (k : Q (.builtin id, [.ref l]) (sh s h t)) : wpAny (model prog w) A (getMethod (.ref l) name pl) Q E (sh s h t) := by
  exact getMethod_builtin ⟨_, hl, rfl⟩ PySem.F.plainAttrs_list slot ht (fun a e => by cases e; exact ⟨_, hl, rfl⟩) k
theorem heapify_spec {H : Addr} {L : List (Fin 5)} {ad : Fin 5 → Addr} {st : Fin 5 → Int} {ep : Nat} (R : Rm A 3 9) {g : Heap} (G : Gl w g) (kg : Keep g h) (ng : g.get? H = none) (hH : h.get? H = some (listObj (refs ad L) ep)) (T : Tags h ad st) (hL : L.length ≤ 100)
    (k : ∀ h' t' ep', (∀ b o, b ≠ H → h.get? b = some o → h'.get? b = some o) → h'.get? H = some (listObj (refs ad (hfF (ltT st) L)) ep') → Q .none (sh s h' t')) :
    wpAny (model prog w) A (call (.ref 42) [.ref H]) Q E (sh s h t) := by
  refine q_call (d := 2) (u := 6) [Str.ofString "x", Str.ofString "n", Str.ofString "i"] [Str.ofString "x"]
    [(Str.ofString "x", some (.ref H)), (Str.ofString "n", none), (Str.ofString "i", none)]
    R (G.keeps kg) rfl rfl rfl ⟨rfl, rfl, rfl⟩ rfl (by decide +kernel) rfl ?_
  intro env h₁ tk e R' S'
  obtain ⟨hb, kb, nH, ob⟩ := takeOut h H
  have S := S'.opened kb [(H, listObj (refs ad L) ep)] (fun q hq => by rw [List.mem_singleton] at hq; subst hq; exact ⟨hH, nH⟩) (by simp)
  have Tb := T.out hH ob
  have Gb : ∀ {h' : Heap}, Keep hb h' → Gl w h' := fun k => (G.out kg ng ob).keeps k
  have hz : ∀ L' : List (Fin 5), L'.length = L.length → (refs ad L').length ≤ 1000 := fun L' e => by rw [refs_len, e]; omega
  refine wpAny_execs_cons (wpAny_Assign_Name (wpAny_Call_NameR (q_len (Gb S.keep) S e (PyProof.Rows.callWith_builtin1 (args_cons (q_ld S (by walk_at "has") (args_nil (q_len_list (isList_of (S.get (by walk_at "mem"))) (Nat.le_trans (hz L rfl) sizeLine_big) fun ue _ => ?_))))))))
  rw [refs_len]
  refine q_st S (by walk_at "put") fun h₂ t₂ S₂ => ?_
  refine wpAny_execs_cons (q_forRev (h₀ := hb) (L.length / 2) R'.hd (fun j fr nw => ∃ x3 ep, fr = [(Str.ofString "x", some (.ref H)), (Str.ofString "n", some (.int (L.length : Nat) ue)), (Str.ofString "i", x3)] ∧ nw = [(H, listObj (refs ad (hfN (ltT st) (L.length / 2) L j)) ep)]) ?_ ?_ ?_)
  · refine wpAny_Call_NameR (q_reversed (Gb S₂.keep) S₂ e (PyProof.Rows.callWith_type1 (args_cons (wpAny_Call_NameR (q_range (Gb S₂.keep) S₂ e (PyProof.Rows.callWith_type1 (args_cons (wpAny_BinOp (q_ld S₂ (by walk_at "has") (q_cint fun _ _ => q_fdiv (by decide) (noPylong (by decide)) fun uq _ => ?_))))))))))
    have hd2 : ((L.length : Nat) : Int).fdiv 2 = ((L.length / 2 : Nat) : Int) := by rw [Int.fdiv_eq_ediv_of_nonneg _ (by decide)]; rfl
    rw [hd2]
    refine args_nil (q_crange1 fun r h' t' a b c kk _ hr => args_nil ?_)
    refine call_reversed_range (s := sh s h' t') hr (by omega) ?_
    exact ⟨h', t', _, _, rfl, rfl, S₂.keeps kk, none, ep, rfl, rfl⟩
  · rintro j u b₁ h₃ fr nw t₃ hj ⟨x3, ep, rfl, rfl⟩ k₁ S₃
    refine wpAny_assign_Name (q_st S₃ (by walk_at "put") fun h₄ t₄ S₄ => ?_)
    have G₄ := Gb (k₁.trans S₄.keep)
    refine wpAny_execs_cons (q_expr S₄ (q_fn G₄ S₄ e (g_siftup _) (keep_siftup _) (args_cons (q_ld S₄ (by walk_at "has") (args_cons (q_ld S₄ (by walk_at "has") (args_nil ⟨G₄.kx, ?_⟩)))))))
    refine siftup_spec R' (Gb k₁) S₄.keep (S₄.new _ (by walk_at "mem" : (H, listObj (refs ad (hfN (ltT st) (L.length / 2) L j)) ep) ∈ _)).2 (S₄.get (by walk_at "mem")) (Tb.keeps (k₁.trans S₄.keep)) (by rw [hfN_len]; omega) (by rw [hfN_len]; omega) fun h₅ t₅ ep' hk hg => ?_
    have S₅ := S₄.turnX (nw' := [(H, listObj (refs ad (hfN (ltT st) (L.length / 2) L (j + 1))) ep')]) (by walk_at "turn") hk hg
    exact wpAny_execs_nil ⟨h₅, _, _, t₅, rfl, S₅, _, _, rfl, rfl⟩
  · rintro h₃ fr nw t₃ ⟨x3, ep, rfl, rfl⟩ S₃
    refine wpAny_execs_nil (k _ _ ep (fun b o hn e => S₃.keep b o (ob b o hn e)) ?_)
    exact S₃.get (by walk_at "mem")
theorem heappop_spec {H : Addr} {L : List (Fin 5)} {y : Fin 5} {ad : Fin 5 → Addr} {st : Fin 5 → Int} {ep : Nat} (R : Rm A 3 9) {g : Heap} (G : Gl w g) (kg : Keep g h) (ng : g.get? H = none) (hH : h.get? H = some (listObj (refs ad (L ++ [y])) ep)) (T : Tags h ad st) (hL : L.length ≤ 99)
    (k : ∀ h' t' ep', (∀ b o, b ≠ H → h.get? b = some o → h'.get? b = some o) → h'.get? H = some (listObj (refs ad (popL (ltT st) L y)) ep') → Q (.ref (ad (popV L y))) (sh s h' t')) :
    wpAny (model prog w) A (call (.ref 35) [.ref H]) Q E (sh s h t) := by
  refine q_call (d := 2) (u := 6) [Str.ofString "heap", Str.ofString "lastelt", Str.ofString "returnitem"] [Str.ofString "heap"]
    [(Str.ofString "heap", some (.ref H)), (Str.ofString "lastelt", none), (Str.ofString "returnitem", none)]
    R (G.keeps kg) rfl rfl rfl ⟨rfl, rfl, rfl⟩ rfl (by decide +kernel) rfl ?_
  intro env h₁ tk e R' S'
  obtain ⟨hb, kb, nH, ob⟩ := takeOut h H
  have S := S'.opened kb [(H, listObj (refs ad (L ++ [y])) ep)] (fun q hq => by rw [List.mem_singleton] at hq; subst hq; exact ⟨hH, nH⟩) (by simp)
  have Tb := T.out hH ob
  have Gb : ∀ {h' : Heap}, Keep hb h' → Gl w h' := fun k => (G.out kg ng ob).keeps k
  have er : refs ad (L ++ [y]) = refs ad L ++ [.ref (ad y)] := by unfold refs; rw [List.map_append]; rfl
  rw [er] at S
  refine wpAny_execs_cons (wpAny_Assign_Name (q_mcall (q_ld S (by walk_at "has") (q_listmeth (S.get (by walk_at "mem")) F.slot_list_pop F.type_list_pop ?_))))
  refine q_pop S (nwOf := fun ep' => [(H, listObj (refs ad L) ep')]) (by walk_at "mem") (by rw [refs_len]; omega) (fun _ => by walk_at "turn") fun ep₂ h₂ t₂ S₂ => q_st S₂ (by walk_at "put") fun h₃ t₃ S₃ => ?_
  have hem : (refs ad L).isEmpty = L.isEmpty := by unfold refs; cases L <;> rfl
  refine wpAny_execs_cons (q_if (wpAny_isTrue_value (q_ld S₃ (by walk_at "has") (q_truthyL (isList_of (S₃.get (by walk_at "mem"))) (by rw [refs_len]; omega) fun t₄ => ⟨fun hc => ?_, fun hc => ?_⟩))))
  · rw [hem] at hc
    have hc' : L.isEmpty = false := by simpa using hc
    have hpos : 0 < L.length := by cases L with | nil => cases hc' | cons a r => simp
    refine wpAny_execs_cons (wpAny_Assign_Name (Subscript_ (q_ld S₃ (by walk_at "has") (q_cint fun _ _ => q_item (isList_of (S₃.get (by walk_at "mem"))) (by decide) (by decide) (refs_get (L := L) (p := 0) hpos) (q_st S₃ (by walk_at "put") fun h₅ t₅ S₅ => ?_)))))
    refine wpAny_execs_cons (wpAny_Assign_Subscript (q_ld S₅ (by walk_at "has") (q_ld S₅ (by walk_at "has") (q_cint fun _ _ => q_seti S₅ (by walk_at "mem") (by decide) (by rw [refs_len]; omega) (by rw [refs_len]; omega) (nwOf := [(H, listObj (refs ad (L.set 0 y)) ep₂)]) (by rw [← refs_set]; walk_at "turn") fun h₆ S₆ => ?_))))
    refine wpAny_execs_cons (q_expr S₆ (q_fn (Gb S₆.keep) S₆ e (g_siftup _) (keep_siftup _) (args_cons (q_ld S₆ (by walk_at "has") (args_cons (q_cint fun uz tz => args_nil ⟨(Gb S₆.keep).kx, ?_⟩))))))
    refine siftup_spec (p := 0) R' (Gb (Keep.refl _)) S₆.keep nH (S₆.get (by walk_at "mem")) (Tb.keeps S₆.keep) (by rw [List.length_set]; exact hpos) (by rw [List.length_set]; omega) fun h₇ t₇ ep' hk hg => ?_
    have S₇ := S₆.turnX (nw' := [(H, listObj (refs ad (suF (ltT st) 0 (L.set 0 y))) ep')]) (by walk_at "turn") hk hg
    refine wpAny_execs_cons (wpAny_Return_some (q_ld S₇ (by walk_at "has") ?_))
    have e1 : popL (ltT st) L y = suF (ltT st) 0 (L.set 0 y) := by unfold popL; rw [hc']; rfl
    have e2 : popV L y = L.getD 0 0 := by unfold popV; rw [hc']; rfl
    rw [e1, e2] at k
    exact k _ _ ep' (fun b o hn e => S₇.keep b o (ob b o hn e)) (S₇.get (by walk_at "mem"))
  · rw [hem] at hc
    have hc' : L.isEmpty = true := by simpa using hc
    have e1 : popL (ltT st) L y = L := by unfold popL; rw [hc']; cases L with | nil => rfl | cons a r => cases hc'
    have e2 : popV L y = y := by unfold popV; rw [hc']; rfl
    rw [e1, e2] at k
    refine wpAny_execs_nil (wpAny_execs_cons (wpAny_Return_some (q_ld S₃ (by walk_at "has") ?_)))
    exact k _ _ ep₂ (fun b o hn e => S₃.keep b o (ob b o hn e)) (S₃.get (by walk_at "mem"))
end
end
section
open PySem PySem.W PySem.Spec PySem.Calls PyProof.Rows
set_option maxRecDepth 100000
set_option maxHeartbeats 4000000
theorem five_ex {α : Type} {l : List α} (h : l.length = 5) : ∃ a b c d e, l = [a, b, c, d, e] := by
  obtain ⟨a, l, rfl⟩ := List.exists_cons_of_length_eq_add_one h
  obtain ⟨b, l, rfl⟩ := List.exists_cons_of_length_eq_add_one (by simpa using h : l.length = 3 + 1)
  obtain ⟨c, l, rfl⟩ := List.exists_cons_of_length_eq_add_one (by simpa using h : l.length = 2 + 1)
  obtain ⟨d, l, rfl⟩ := List.exists_cons_of_length_eq_add_one (by simpa using h : l.length = 1 + 1)
  obtain ⟨e, l, rfl⟩ := List.exists_cons_of_length_eq_add_one (by simpa using h : l.length = 0 + 1)
  obtain rfl : l = [] := List.length_eq_zero_iff.mp (by simpa using h)
  exact ⟨a, b, c, d, e, rfl⟩
def letter (i : Fin 5) : Str := ⟨#[97 + i.val]⟩
theorem letter_at : ∀ i : Fin 5, (seqIndex? (i.val : Int) (Str.ofString "abcde").length).bind ((Str.ofString "abcde").cps[·]?) = some (97 + i.val) := by decide +kernel
theorem letter_len (i : Fin 5) : (letter i).length = 1 := rfl
theorem bar_len : (Str.ofString "|").length = 1 := by decide +kernel
def wdGo (st : Fin 5 → Int) : Nat → List (Fin 5) → Str → Int → Str
  | 0, _, wd, _ => wd
  | f + 1, L, wd, r => wdGo st f (popL (ltT st) L.dropLast (L.getLastD 0)) ((if (st (popV L.dropLast (L.getLastD 0)) != r) = true then wd ++ Str.ofString "|" else wd) ++ letter (popV L.dropLast (L.getLastD 0))) (st (popV L.dropLast (L.getLastD 0)))
def wordF (st : Fin 5 → Int) : Str := wdGo st 5 (hfF (ltT st) [0, 1, 2, 3, 4]) (Str.ofString "") (st ((hfF (ltT st) [0, 1, 2, 3, 4]).getD 0 0))
theorem popL_len (lt : Fin 5 → Fin 5 → Bool) (L : List (Fin 5)) (y : Fin 5) : (popL lt L y).length = L.length := by
  unfold popL
  cases L with
  | nil => rfl
  | cons a r => show (suF lt 0 _).length = _; rw [suF_len, List.length_set]
theorem last_split {L : List (Fin 5)} {n : Nat} (h : L.length = n + 1) : L = L.dropLast ++ [L.getLastD 0] := by
  have hne : L ≠ [] := fun z => by rw [z] at h; cases h
  have e : L.getLastD 0 = L.getLast hne := by rw [List.getLastD_eq_getLast?, List.getLast?_eq_some_getLast hne]; rfl
  rw [e]
  exact (List.dropLast_concat_getLast hne).symm
section
variable {prog : Program} {w : World} {A : Around} {E : Value → Shared → Prop} {s : Shared} {t : Nat} {h h₀ : Heap} {env : Env} {fr : Locals} {nw : Led}
theorem swaps_local {elt : Expr} {gens : List Comprehension} {scope : Scope} {pos py : Pos} {x : Str} {line : Nat} (S : St h₀ env h fr nw) (hk : env.kindOf x = some .local) (hl : (py.line == pos.line) = true)
    (hn : (scope.names.any fun (n, k) => n == x && (k == .local || k == .cell)) = false) : swapsWith (.ListComp elt gens scope pos) (some (.Name x py)) line env = pure true := by
  have hb : env.blockKind = .function := by unfold Env.blockKind; rw [S.fn]; rfl
  show (pure (env.blockKind == .function && env.kindOf x == some .local && py.line == pos.line && !(scope.names.any fun (n, k) => n == x && (k == .local || k == .cell))) : Sem Bool) = _
  rw [hb, hk, hl, hn]; rfl
theorem swaps_cell {elt : Expr} {gens : List Comprehension} {scope : Scope} {pos py : Pos} {x : Str} {line : Nat} (hk : env.kindOf x = some .cell) : swapsWith (.ListComp elt gens scope pos) (some (.Name x py)) line env = pure false := by
  show (pure (env.blockKind == .function && env.kindOf x == some .local && py.line == pos.line && !(scope.names.any fun (n, k) => n == x && (k == .local || k == .cell))) : Sem Bool) = _
  rw [hk]
  have : ((some NameKind.cell == some NameKind.local) : Bool) = false := by decide
  rw [this, Bool.and_false]; rfl
/-- an object made meanwhile goes on the ledger -/
theorem St.take (S : St h₀ env h fr nw) {D : Addr} {o : Obj} (hD : h.get? D = some o) (h0 : h₀.get? D = none) (h1 : D ≠ env.locals) (h2 : D ∉ nw.map (·.1)) : St h₀ env h fr ((D, o) :: nw) := by
  refine ⟨S.fn, S.ns, S.nd, S.kd, S.keep, S.apart, fun p hp => ?_, ?_⟩
  · rcases List.mem_cons.mp hp with rfl | hp
    · exact ⟨hD, h0⟩
    · exact S.new p hp
  · have q := List.nodup_cons.mp S.ndn
    refine List.nodup_cons.mpr ⟨fun hm => ?_, List.nodup_cons.mpr ⟨h2, q.2⟩⟩
    rcases List.mem_cons.mp hm with z | z
    · exact h1 z.symm
    · exact q.1 z
theorem q_letter {value slice : Expr} {i : Fin 5} {p u : Tok} {Q : Value → Shared → Prop} (k : ∀ u t', Q (.str (letter i) u) (sh s h t'))
    (hs : subscripted slice false (.str (Str.ofString "abcde") u) (.int (i.val : Int) p) = operate [.str (Str.ofString "abcde") u, .int (i.val : Int) p] (getItem (.str (Str.ofString "abcde") u) (.int (i.val : Int) p)) := by with_unfolding_all rfl) :
    wpAny (model prog w) A (subscriptTail value slice (.str (Str.ofString "abcde") u) (.int (i.val : Int) p)) Q E (sh s h t) := by
  have hi : (i.val : Int) < 5 := by have := i.isLt; omega
  refine tail_any (typeIs_str _ _ _) F.slot_str_getitem.lookup (P.getItem_str (c := 97 + i.val) ?_ (letter_at i) (k _ _)) hs
  rw [Bool.or_eq_false_iff, decide_eq_false_iff_not, decide_eq_false_iff_not]; omega
end
section
variable {prog : Program} {w : World} {A : Around} {Q E : Value → Shared → Prop} {s : Shared} {h : Heap} {t : Nat}
theorem word_spec {X : Addr} {xs : List Value} {stops : List Int} (R : Rm A 4 12) (G : Gl w h) (hX : h.IsList X xs.toArray) (iX : IntsAre xs stops) (lX : stops.length = 5)
    (k : ∀ u h' t', Keep h h' → Q (.str (wordF fun i => stops.getD i.val 0) u) (sh s h' t')) :
    wpAny (model prog w) A (call (.ref 146) [.ref X]) Q E (sh s h t) := by
  refine q_callC (d := 3) (u := 9) [Str.ofString "k", Str.ofString "heap", Str.ofString "word", Str.ofString "reached", Str.ofString "stop"] [Str.ofString "stops"]
    [(Str.ofString "k", none), (Str.ofString "heap", none), (Str.ofString "word", none), (Str.ofString "reached", none), (Str.ofString "stop", none)]
    R G rfl rfl rfl ⟨rfl, rfl, rfl⟩ rfl (by decide +kernel) rfl ?_
  intro env h₁ tk e hL R' S X0
  have c1 : h₁.IsCell (0 + (h.objs.size + 1)) (some (.ref X)) := X0 (Str.ofString "stops") 0 rfl
  have G₁ := G.keeps S.keep
  generalize hst : (fun i : Fin 5 => stops.getD i.val 0) = st at k
  refine q_cutA (fun s' => ∃ h' t' H ep ad b, s' = sh s h' t' ∧ Keep h b ∧ St b env h' [(Str.ofString "k", none), (Str.ofString "heap", some (.ref H)), (Str.ofString "word", none), (Str.ofString "reached", none), (Str.ofString "stop", none)] [(H, listObj (refs ad [0, 1, 2, 3, 4]) ep)] ∧ Tags b ad st) (fun Q' hQ => ?_) ?_
  · refine q_asComp (h₀ := h) (nw := []) (fr := [(Str.ofString "k", none), (Str.ofString "heap", none), (Str.ofString "word", none), (Str.ofString "reached", none), (Str.ofString "stop", none)]) _ (fun D => [(Str.ofString "k", none), (Str.ofString "heap", some (.ref D)), (Str.ofString "word", none), (Str.ofString "reached", none), (Str.ofString "stop", none)]) (swaps_local S (e.kd _ _ rfl (by decide)) rfl (by decide +kernel)) e (by decide +kernel) rfl (by decide +kernel) (by decide) rfl rfl (fun _ => by walk_at "put") ?_
    refine wpAny_Call_NameR (q_range G₁ S e (PyProof.Rows.callWith_type1 (args_cons (q_cint fun _ _ => args_nil (q_crange1 fun r h₂ t₂ a b c kk _ hr => ?_)))))
    have S₂ := S.keeps kk
    refine ⟨h₂, t₂, 5, _, fun j y os => ∃ a ta tc, y = .ref a ∧ os = [(a, tupObj [.int (stops.getD j 0) ta, .int (j : Nat) tc])], rfl, S₂, Src.range 5 R'.hd hr (by decide) (by decide), by have := sizeLine_big; omega, ?_, ?_⟩
    · rintro j v b₁ h' cenv t' e' hj ⟨u, rfl⟩ k₁ S'
      have kb := k₁.trans S'.keep
      obtain ⟨u1, hu1⟩ := IntsAre_get iX (getElem?_getD (j := j) (by omega))
      have e0 : (0 : Int) + (j : Int) = ((j : Nat) : Int) := by omega
      rw [e0] at S'
      refine Tuple_ (args_cons (Subscript_ (q_ldc S' e' (.inl rfl) rfl ((c1.keeps kk).keeps kb) (q_ld S' (by walk_at "has") (q_item (i := ((j : Nat) : Int)) (lk hX (S₂.keep.trans kb)) (by omega) (by omega) hu1 (args_cons (q_ld S' (by walk_at "has") (args_nil (q_newTuple S' (by have := sizeLine_big; simp; omega) fun T h'' S'' k'' hn => ?_)))))))))
      refine ⟨h'', _, [(T, tupObj [.int (stops.getD j 0) u1, .int ((j : Nat) : Int) u])], rfl, k'', ⟨T, u1, u, rfl, rfl⟩, fun p hp => ?_⟩
      rw [List.mem_singleton] at hp; subst hp
      exact ⟨S''.get (by walk_at "mem"), hn⟩
    · intro D h' t' ep zs S' kk' hD hDL hlD hn hF hM
      obtain ⟨z0, z1, z2, z3, z4, rfl⟩ := five_ex hn
      obtain ⟨a0, ta0, tc0, e0, o0⟩ := hF 0 z0 rfl
      obtain ⟨a1, ta1, tc1, e1, o1⟩ := hF 1 z1 rfl
      obtain ⟨a2, ta2, tc2, e2, o2⟩ := hF 2 z2 rfl
      obtain ⟨a3, ta3, tc3, e3, o3⟩ := hF 3 z3 rfl
      obtain ⟨a4, ta4, tc4, e4, o4⟩ := hF 4 z4 rfl
      have m0 := hM z0 (by walk_at "mem") _ (o0 ▸ List.Mem.head _)
      have m1 := hM z1 (by walk_at "mem") _ (o1 ▸ List.Mem.head _)
      have m2 := hM z2 (by walk_at "mem") _ (o2 ▸ List.Mem.head _)
      have m3 := hM z3 (by walk_at "mem") _ (o3 ▸ List.Mem.head _)
      have m4 := hM z4 (by walk_at "mem") _ (o4 ▸ List.Mem.head _)
      have hD0 : h.get? D = none := by
        cases q : h.get? D with
        | none => rfl
        | some o => rw [S₂.keep _ _ q] at hD; cases hD
      have S₃ := S'.take hlD hD0 hDL (fun z => (nomatch z))
      obtain ⟨b₂, kb2, _, S₄, hb₂⟩ := S₃.rebase
      obtain ⟨oL, hoL⟩ := S₂.nsAt
      have get : ∀ {a : Addr} {vs : List Value}, h'.get? a = some (tupObj vs) → h₂.get? a = none → b₂.get? a = some (tupObj vs) := fun {a vs} q1 q2 => by
        refine hb₂ a _ q1 (fun z => by rw [z, hoL] at q2; cases q2) fun z => ?_
        have z' : a = D := by simpa using z
        rw [z', hlD] at q1
        simp [listObj, tupObj] at q1
      refine hQ _ ⟨h', t', D, ep, fun i => [a0, a1, a2, a3, a4].getD i.val 0, b₂, rfl, kb2, ?_, fun i => ?_⟩
      · have el : List.map (fun x : Value × Led => x.1) [z0, z1, z2, z3, z4] = refs (fun i => [a0, a1, a2, a3, a4].getD i.val 0) [0, 1, 2, 3, 4] := by
          simp only [List.map_cons, List.map_nil, e0, e1, e2, e3, e4]; rfl
        rw [el] at S₄
        exact S₄
      · subst hst
        match i with
        | ⟨0, _⟩ => exact ⟨ta0, tc0, get m0.1 m0.2⟩
        | ⟨1, _⟩ => exact ⟨ta1, tc1, get m1.1 m1.2⟩
        | ⟨2, _⟩ => exact ⟨ta2, tc2, get m2.1 m2.2⟩
        | ⟨3, _⟩ => exact ⟨ta3, tc3, get m3.1 m3.2⟩
        | ⟨4, _⟩ => exact ⟨ta4, tc4, get m4.1 m4.2⟩
  · rintro _ ⟨h₂, t₂, H, ep, ad, b, rfl, kb, S₂, T⟩
    have Gb : ∀ {h' : Heap}, Keep b h' → Gl w h' := fun k => (G.keeps kb).keeps k
    refine wpAny_execs_cons (q_expr S₂ (q_fn (Gb S₂.keep) S₂ e (g_heapify _) (keep_heapify _) (args_cons (q_ld S₂ (by walk_at "has") (args_nil ⟨(Gb S₂.keep).kx, ?_⟩)))))
    refine heapify_spec R' (Gb (Keep.refl _)) S₂.keep (S₂.new _ (by walk_at "mem" : (H, listObj (refs ad [0, 1, 2, 3, 4]) ep) ∈ _)).2 (S₂.get (by walk_at "mem")) (T.keeps S₂.keep) (by decide) fun h₃ t₃ ep₃ hk hg => ?_
    have S₃ := S₂.turnX (nw' := [(H, listObj (refs ad (hfF (ltT st) [0, 1, 2, 3, 4])) ep₃)]) (by walk_at "turn") hk hg
    refine wpAny_execs_cons (wpAny_Assign_Name (q_cstr fun _ _ => q_st S₃ (by walk_at "put") fun h₄ t₄ S₄ => ?_))
    have hl5 : (hfF (ltT st) [0, 1, 2, 3, 4]).length = 5 := hfN_len ..
    obtain ⟨ta, tc, htop⟩ := (T.keeps S₄.keep) ((hfF (ltT st) [0, 1, 2, 3, 4]).getD 0 0)
    refine wpAny_execs_cons (wpAny_Assign_Name (Subscript_ (Subscript_ (q_ld S₄ (by walk_at "has") (q_cint fun _ _ => q_item (isList_of (S₄.get (by walk_at "mem"))) (by decide) (by decide) (refs_get (L := hfF (ltT st) [0, 1, 2, 3, 4]) (p := 0) (by omega)) (q_cint fun _ _ => q_item_tup htop (by decide) (by decide) rfl (q_st S₄ (by walk_at "put") fun h₅ t₅ S₅ => ?_)))))))
    refine wpAny_execs_cons (q_while (fun k s' => ∃ h' t' L wd uw r ur x1 x5 ep, s' = sh s h' t' ∧ St b env h' [(Str.ofString "k", x1), (Str.ofString "heap", some (.ref H)), (Str.ofString "word", some (.str wd uw)), (Str.ofString "reached", some (.int r ur)), (Str.ofString "stop", x5)] [(H, listObj (refs ad L) ep)] ∧
      L.length = k ∧ wd.length + 2 * k ≤ 10 ∧ wdGo st k L wd r = wordF st) ?_ 5 ⟨_, _, _, _, _, _, _, _, _, _, rfl, S₅, hl5, by rw [str_nil_len]; decide, rfl⟩)
    rintro k' s' ⟨h₆, t₆, L, wd, uw, r, ur, x1, x5, ep₆, rfl, S₆, hl', hw, hgo⟩ K hK
    refine wpAny_isTrue_Compare1 (wpAny_Call_NameR (q_len (Gb S₆.keep) S₆ e (PyProof.Rows.callWith_builtin1 (args_cons (q_ld S₆ (by walk_at "has") (args_nil (q_len_list (isList_of (S₆.get (by walk_at "mem"))) (by rw [refs_len]; have := sizeLine_big; omega) fun _ _ => q_cint fun _ _ => q_gt (wpAny_truthy_bool ?_))))))))
    rw [refs_len]
    cases k' with
    | zero =>
      refine ⟨fun z => absurd (of_decide_eq_true z) (by omega), fun _ => ?_⟩
      have : wd = wordF st := hgo
      rw [← this] at k
      exact (wpAny_execs_cons (wpAny_Return_some (q_ld S₆ (by walk_at "has") (k _ _ _ (kb.trans S₆.keep)))))
    | succ j =>
      refine ⟨fun _ => ?_, fun z => absurd (of_decide_eq_false z) (by omega)⟩
      rw [wdGo] at hgo
      have hsp := last_split hl'
      have hlen0 : L.dropLast.length = j := by rw [List.length_dropLast]; omega
      generalize L.dropLast = L0 at *
      generalize L.getLastD 0 = y at *
      subst hsp
      refine wpAny_execs_cons (Assign_Tuple (q_fn (Gb S₆.keep) S₆ e (g_heappop _) (keep_heappop _) (args_cons (q_ld S₆ (by walk_at "has") (args_nil ⟨(Gb S₆.keep).kx, ?_⟩)))))
      refine heappop_spec R' (Gb (Keep.refl _)) S₆.keep (S₆.new _ (by walk_at "mem" : (H, listObj (refs ad (L0 ++ [y])) ep₆) ∈ _)).2 (S₆.get (by walk_at "mem")) (T.keeps S₆.keep) (by omega) fun h₇ t₇ ep₇ hk hg => ?_
      have S₇ := S₆.turnX (nw' := [(H, listObj (refs ad (popL (ltT st) L0 y)) ep₇)]) (by walk_at "turn") hk hg
      have hpl : (popL (ltT st) L0 y).length = j := by rw [popL_len]; exact hlen0
      generalize popL (ltT st) L0 y = L1 at *
      generalize popV L0 y = i at *
      obtain ⟨ta, tc, hi⟩ := (T.keeps S₇.keep) i
      refine q_unpack2 R'.hd S₇ (isTuple_of hi) (by walk_at "put") (by walk_at "put") fun h₈ t₈ S₈ => ?_
      refine wpAny_execs_cons (q_if (wpAny_isTrue_Compare1 (q_ld S₈ (by walk_at "has") (q_ld S₈ (by walk_at "has") (q_ne (wpAny_truthy_bool ⟨fun hne => ?_, fun hne => ?_⟩))))))
      · refine wpAny_execs_cons (wpAny_AugAssign_Name (q_ldn S₈ (by walk_at "has") (q_cstr fun _ _ => q_iadds (by have := sizeLine_big; have := bar_len; omega) fun _ _ => q_st S₈ (by walk_at "put") fun h₉ _ S₉ => ?_)))
        refine wpAny_execs_cons (wpAny_Assign_Name (q_ld S₉ (by walk_at "has") (q_st S₉ (by walk_at "put") fun h₁₀ t₁₀ S₁₀ => wpAny_execs_nil ?_)))
        refine wpAny_execs_cons (wpAny_AugAssign_Name (q_ldn S₁₀ (by walk_at "has") (Subscript_ (q_cstr fun _ _ => q_ld S₁₀ (by walk_at "has") (q_letter fun _ _ => q_iadds (by have := sizeLine_big; have := bar_len; have := letter_len i; rw [Str.length_append]; omega) fun _ _ => q_st S₁₀ (by walk_at "put") fun h₁₁ t₁₁ S₁₁ => ?_)))))
        rw [if_pos hne] at hgo
        exact wpAny_execs_nil (hK j _ (Nat.lt_succ_self _) ⟨h₁₁, t₁₁, _, _, _, _, _, _, _, _, rfl, S₁₁, hpl, by rw [Str.length_append, Str.length_append, letter_len, bar_len]; omega, hgo⟩)
      · have hr : st i = r := by simpa using hne
        refine wpAny_execs_nil ?_
        refine wpAny_execs_cons (wpAny_AugAssign_Name (q_ldn S₈ (by walk_at "has") (Subscript_ (q_cstr fun _ _ => q_ld S₈ (by walk_at "has") (q_letter fun _ _ => q_iadds (by have := sizeLine_big; have := letter_len i; omega) fun _ _ => q_st S₈ (by walk_at "put") fun h₁₁ t₁₁ S₁₁ => ?_)))))
        rw [if_neg (by rw [hne]; decide), hr] at hgo
        exact wpAny_execs_nil (hK j _ (Nat.lt_succ_self _) ⟨h₁₁, t₁₁, _, _, _, _, _, _, _, _, rfl, S₁₁, hpl, by rw [Str.length_append, letter_len]; omega, hgo⟩)
end
end
section
open PySem PySem.W PySem.Spec PySem.Calls PyProof.Rows
set_option maxRecDepth 100000
set_option maxHeartbeats 4000000
open PySem.Builtin PySem.Builtin.Str in
theorem gives_find4 (x y : Str) (i : Int) (t u v z : Tok) : Gives («str.find» ⟨[.str x t, .str y u, .int i v, .int (x.length : Nat) z], []⟩) (.int (Txt.find3 x y i)) := by
  have e : (max 0 (if ((x.length : Nat) : Int) < 0 then ((x.length : Nat) : Int) + (x.length : Nat) else ((x.length : Nat) : Int))).toNat = x.length := by
    rw [if_neg (by omega)]; omega
  show Gives (match occurrences x y (fromIndex x.length i) (min (max 0 (if ((x.length : Nat) : Int) < 0 then ((x.length : Nat) : Int) + (x.length : Nat) else ((x.length : Nat) : Int))).toNat x.length) 1 with | k :: _ => retInt k | [] => (do rule "str.find.not-found"; retInt (-1))) _
  rw [e, Nat.min_self]
  unfold Txt.find3
  cases occurrences x y (fromIndex x.length i) x.length 1 with
  | nil => exact .rule (.of_eq rfl)
  | cons k _ => exact .of_eq rfl
def wantF (i k : Fin 5) : Str := (((Str.ofString "..." ++ letter i) ++ Str.ofString "...|...") ++ letter k) ++ Str.ofString "..."
def partsF (i k : Fin 5) : List Str := [Str.ofString "", letter i, Str.ofString "|", letter k, Str.ofString ""]
theorem want_has : ∀ i k : Fin 5, (!(!(Builtin.Str.occurrences (wantF i k) (Str.ofString "...") 0 (wantF i k).length 1).isEmpty)) = false := by decide +kernel
theorem want_parts : ∀ i k : Fin 5, Txt.split (wantF i k) (Str.ofString "...") = partsF i k := by decide +kernel
theorem want_len : ∀ i k : Fin 5, (wantF i k).length ≤ 20 := by decide +kernel
theorem want_cuts : ∀ i k : Fin 5, (Builtin.Str.partsBetween (wantF i k) (Builtin.Str.occurrences (wantF i k) (Str.ofString "...") 0 (wantF i k).length ((wantF i k).length + 1)) (Str.ofString "...").length).length ≤ 20 := by decide +kernel
theorem parts_small : ∀ i k : Fin 5, ∀ x ∈ partsF i k, x.length ≤ 1 := by decide +kernel
def mtGo (got : Str) : List Str → Int → Bool
  | [], _ => true
  | x :: r, p => if Txt.find3 got x p < 0 then false else mtGo got r (Txt.find3 got x p + (x.length : Nat))
def matchF (got : Str) (i k : Fin 5) : Bool := mtGo got (partsF i k) 0
theorem g_marker (P : Params) : nsFind (globE P) (Str.ofString "ELLIPSIS_MARKER") = some (.str (Str.ofString "...") 196) := by rfl
section
variable {prog : Program} {w : World} {A : Around} {E : Value → Shared → Prop} {s : Shared} {t : Nat} {h h₀ : Heap} {env : Env} {fr : Locals} {nw : Led}
theorem St.list_ne (S : St h₀ env h fr nw) {l : Addr} {its : Array Value} (hl : h.IsList l its) : l ≠ env.locals := by
  obtain ⟨m, ⟨o, es, n, ho, hd, _⟩, _⟩ := S.ns
  obtain ⟨o', ho', _, ep, hd'⟩ := hl
  rintro rfl
  rw [ho] at ho'
  cases ho'
  rw [hd] at hd'
  cases hd'
theorem q_bm {M : Model} {s : Shared} {pos : Pos} {id : String} {first : List Value} {e : Expr} {rest : List Expr} {Q : Value → Shared → Prop}
    (k : wpAny M A (spliced (backTo pos (starEach (e :: rest) env))) (fun vs s₁ => wpAny M A (call (.builtin id) (first ++ vs)) Q E s₁) E s)
    (he : starEach (e :: rest) env = (false, eval e env) :: starEach rest env := by rfl) (hplain : (backTo pos (starEach rest env)).any (·.1) = false := by rfl) :
    wpAny M A (callWith pos (.builtin id) first (backTo pos (starEach (e :: rest) env)) []) Q E s := by
  rw [he] at k ⊢
  refine Calls.callWith_builtin ?_ (Calls.evalArgs_plain k)
  show (false || (backTo pos (starEach rest env)).any (·.1)) = false
  rw [hplain]; rfl
theorem q_lenstr {x : Str} {p : Tok} {Q : Value → Shared → Prop} (hx : x.length ≤ 1000) (k : ∀ u t', Q (.int (x.length : Nat) u) (sh s h t')) : wpAny (model prog w) A (call (.builtin "len") [.str x p]) Q E (sh s h t) :=
  P.len_str (by omega) (k _ _)
theorem q_truthyS {x : Str} {p : Tok} {Q : Bool → Shared → Prop} (hx : x.length ≤ 1000) (k : ∀ t', Q ((x.length : Int) != 0) (sh s h t')) : wpAny (model prog w) A (truthy (.str x p)) Q E (sh s h t) :=
  P.truthy_str (by omega) (k _)
end
section
variable {prog : Program} {w : World} {A : Around} {Q E : Value → Shared → Prop} {s : Shared} {h : Heap} {t : Nat}
theorem match_spec {i k : Fin 5} {got : Str} {uw ug : Tok} (R : Rm A 1 3) (G : Gl w h) (hgot : got.length ≤ 100)
    (kk : ∀ h' t', Keep h h' → Q (.bool (matchF got i k)) (sh s h' t')) :
    wpAny (model prog w) A (call (.ref 28) [.str (wantF i k) uw, .str got ug]) Q E (sh s h t) := by
  refine q_call (d := 0) (u := 0) [Str.ofString "want", Str.ofString "got", Str.ofString "ws", Str.ofString "startpos", Str.ofString "endpos", Str.ofString "w"] [Str.ofString "want", Str.ofString "got"]
    [(Str.ofString "want", some (.str (wantF i k) uw)), (Str.ofString "got", some (.str got ug)), (Str.ofString "ws", none), (Str.ofString "startpos", none), (Str.ofString "endpos", none), (Str.ofString "w", none)]
    R G rfl rfl rfl ⟨rfl, rfl, rfl⟩ rfl (by decide +kernel) rfl ?_
  intro env h₁ tk e R' S
  have G₁ := G.keeps S.keep
  have wl := want_len i k
  refine wpAny_execs_cons (q_if (wpAny_isTrue_Compare1 (q_gl G₁ S e rfl (g_marker _) (by decide +kernel) (q_ld S (by walk_at "has") (P.notIn_str (wpAny_truthy_bool ⟨fun hc => ?_, fun _ => wpAny_execs_nil ?_⟩))))))
  · rw [want_has i k] at hc; cases hc
  refine wpAny_execs_cons (wpAny_Assign_Name (q_mcall (q_ld S (by walk_at "has") (GM.split (q_bm (args_cons (q_gl G₁ S e rfl (g_marker _) (by decide +kernel) (args_nil ?_))))))))
  refine SCH.split1 (s := sh s h₁ tk) (P := fun h' => Keep h₁ h') (fun h' ob kp => kp.trans (Keep.push h' ob)) (Keep.refl h₁) (by decide +kernel) (fun D l h₂ t₂ hl k₂ hD => ?_) (by have := sizeLine_big; omega) (by have := sizeLine_big; have := want_cuts i k; omega)
  rw [want_parts i k] at hl
  have hll : (strValues l).length = 5 := by
    have := congrArg List.length hl
    unfold strValues; rw [List.length_map]; rw [List.length_map] at this; exact this
  have at' : ∀ (j : Nat) (x : Str), (partsF i k)[j]? = some x → ∃ u, (strValues l)[j]? = some (Value.str x u) := fun j x hx => by
    rw [← hl, List.getElem?_map] at hx
    unfold strValues
    rw [List.getElem?_map]
    cases hj : l[j]? with
    | none => rw [hj] at hx; cases hx
    | some z => rw [hj] at hx; exact ⟨z.2, by cases hx; rfl⟩
  obtain ⟨b, kb, _, S₂, hb⟩ := (S.keeps k₂).rebase
  have hDb : b.IsList D (strValues l).toArray := by
    obtain ⟨o, ho, r⟩ := id hD
    exact ⟨o, hb D o ho (S₂.list_ne hD) (fun z => (nomatch z)), r⟩
  have Gb : ∀ {h' : Heap}, Keep b h' → Gl w h' := fun k => (G.keeps kb).keeps k
  have sl := sizeLine_big
  refine q_st S₂ (by walk_at "put") fun h₃ t₃ S₃ => ?_
  refine wpAny_execs_cons (wpAny_Assert_holds (wpAny_isTrue_Compare1 (wpAny_Call_NameR (q_len (Gb S₃.keep) S₃ e (PyProof.Rows.callWith_builtin1 (args_cons (q_ld S₃ (by walk_at "has") (args_nil (q_len_list (lk hDb S₃.keep) (by omega) fun _ _ => q_cint fun _ _ => q_ge (wpAny_truthy_bool ⟨by rw [hll]; decide, ?_⟩))))))))))
  refine wpAny_execs_cons (q_pair (h₀ := b) R'.hd S₃ (e.kd _ _ rfl (by decide)) (e.kd _ _ rfl (by decide)) (by decide +kernel) rfl (by decide) (by decide +kernel) (by decide +kernel) (q_cint fun u0 _ => wpAny_Call_NameR (q_len (Gb S₃.keep) S₃ e (PyProof.Rows.callWith_builtin1 (args_cons (q_ld S₃ (by walk_at "has") (args_nil (q_lenstr (by omega) fun ue t₄ => ⟨_, _, _, _, _, _, rfl, S₃, by walk_at "put", by walk_at "put", fun h₄ t₄ S₄ => ?_⟩))))))))
  obtain ⟨ua, ha⟩ := at' 0 (Str.ofString "") rfl
  obtain ⟨uz, hz⟩ := at' 4 (Str.ofString "") rfl
  refine wpAny_execs_cons (wpAny_Assign_Name (Subscript_ (q_ld S₄ (by walk_at "has") (q_cint fun _ _ => q_item (lk hDb S₄.keep) (by decide) (by decide) ha (q_st S₄ (by walk_at "put") fun h₅ t₅ S₅ => ?_)))))
  refine wpAny_execs_cons (q_if (wpAny_isTrue_value (q_ld S₅ (by walk_at "has") (q_truthyS (by rw [str_nil_len]; decide) fun t₅ => ⟨fun hc => (by rw [str_nil_len] at hc; cases hc), fun _ => wpAny_execs_nil ?_⟩))))
  refine wpAny_execs_cons (wpAny_Assign_Name (Subscript_ (q_ld S₅ (by walk_at "has") (wpAny_UnaryOp (q_cint fun _ _ => P.neg_int ?_)))))
  have hl5 := lk hDb S₅.keep
  have hz4 : (strValues l).toArray[4]? = some (Value.str (Str.ofString "") uz) := by simpa using hz
  refine tail_any (s := sh s h₅ _) hl5.typeIs slot_list_getitem.lookup (wpAny_getItem_list_neg (s := sh s h₅ _) hl5 (by decide) (by simp [hll]) (by decide) (x := .str (Str.ofString "") uz) (by rw [List.size_toArray, hll]; exact hz4) ?_) (by with_unfolding_all rfl)
  refine q_st S₅ (by walk_at "put") fun h₆ t₆ S₆ => ?_
  refine wpAny_execs_cons (q_if (wpAny_isTrue_value (q_ld S₆ (by walk_at "has") (q_truthyS (by rw [str_nil_len]; decide) fun t₆ => ⟨fun hc => (by rw [str_nil_len] at hc; cases hc), fun _ => wpAny_execs_nil ?_⟩))))
  refine wpAny_execs_cons (q_if (wpAny_isTrue_Compare1 (q_ld S₆ (by walk_at "has") (q_ld S₆ (by walk_at "has") (q_gt (wpAny_truthy_bool ⟨fun hc => absurd (of_decide_eq_true hc) (by omega), fun _ => wpAny_execs_nil ?_⟩))))))
  refine wpAny_execs_cons (q_forList (h₀ := b) (items := (strValues l).toArray) R'.hd (fun j fr nw => ∃ p up xw, fr = [(Str.ofString "want", some (.str (wantF i k) uw)), (Str.ofString "got", some (.str got ug)), (Str.ofString "ws", some (.ref D)), (Str.ofString "startpos", some (.int p up)), (Str.ofString "endpos", some (.int (got.length : Nat) ue)), (Str.ofString "w", xw)] ∧ nw = [] ∧ mtGo got ((partsF i k).drop j) p = matchF got i k) ?_ ?_ ?_)
  · exact q_ld S₆ (by walk_at "has") ⟨D, h₆, _, _, [], rfl, rfl, lk hDb S₆.keep, S₆.list_ne (lk hDb S₆.keep), fun z => (nomatch z), S₆, 0, u0, _, rfl, rfl, rfl⟩
  · rintro j v b₁ h₇ fr nw t₇ hv ⟨p, up, xw, rfl, rfl, hgo⟩ k₁ S₇
    refine q_absF fun Q' hQ => ?_
    have hj : j < 5 := by
      have := (Array.getElem?_eq_some_iff.mp hv).1
      simpa [hll] using this
    have hpl : (partsF i k).length = 5 := rfl
    obtain ⟨x, hx⟩ : ∃ x, (partsF i k)[j]? = some x := ⟨_, List.getElem?_eq_getElem (by omega)⟩
    obtain ⟨u, hu⟩ := at' j x hx
    have hv' : v = .str x u := by
      have : (strValues l)[j]? = some v := by simpa using hv
      rw [hu] at this; exact (Option.some.inj this).symm
    subst hv'
    have hxs := parts_small i k x (List.mem_of_getElem? hx)
    have hdr : (partsF i k).drop j = x :: (partsF i k).drop (j + 1) := by
      rw [List.drop_eq_getElem_cons (by omega : j < (partsF i k).length)]
      rw [List.getElem?_eq_getElem (by omega)] at hx
      rw [Option.some.inj hx]
    rw [hdr, mtGo] at hgo
    refine wpAny_assign_Name (q_st S₇ (by walk_at "put") fun h₈ t₈ S₈ => ?_)
    have k8 := kb.trans (k₁.trans S₈.keep)
    refine wpAny_execs_cons (wpAny_Assign_Name (q_mcall (q_ld S₈ (by walk_at "has") (GM.find (q_bm (args_cons (q_ld S₈ (by walk_at "has") (args_cons (q_ld S₈ (by walk_at "has") (args_cons (q_ld S₈ (by walk_at "has") (args_nil ?_))))))))))))
    refine call_gives (s := sh s h₈ _) F.slot_str_find (typeIs_str _ _ _) F.entry_str_find (F.args_str_find_4 _ _ _ _) (gives_find4 got x p _ _ _ _) ?_
    refine q_st S₈ (by walk_at "put") fun h₉ t₉ S₉ => ?_
    have k9 := kb.trans (k₁.trans S₉.keep)
    refine wpAny_execs_cons (q_if (wpAny_isTrue_Compare1 (q_ld S₉ (by walk_at "has") (q_cint fun _ _ => q_lt (wpAny_truthy_bool ⟨fun hc => ?_, fun hc => ?_⟩)))))
    · rw [if_pos (of_decide_eq_true hc)] at hgo
      rw [← hgo] at kk
      exact wpAny_execs_cons (wpAny_Return_some (wpAny_Constant_bool (hQ (.ret _) _ (kk _ _ k9))))
    · rw [if_neg (of_decide_eq_false hc)] at hgo
      refine wpAny_execs_nil (wpAny_execs_cons (wpAny_AugAssign_Name (q_ldn S₉ (by walk_at "has") (wpAny_Call_NameR (q_len (G.keeps k9) S₉ e (PyProof.Rows.callWith_builtin1 (args_cons (q_ld S₉ (by walk_at "has") (args_nil (q_lenstr (by omega) fun _ _ => q_iadd fun _ _ => q_st S₉ (by walk_at "put") fun h₁₀ t₁₀ S₁₀ => ?_))))))))))
      exact wpAny_execs_nil (hQ .next _ ⟨h₁₀, _, _, t₁₀, rfl, S₁₀, _, _, _, rfl, rfl, hgo⟩)
  · rintro h₇ fr nw t₇ ⟨p, up, xw, rfl, rfl, hgo⟩ S₇
    have he : (partsF i k).drop (strValues l).toArray.size = [] := by rw [List.size_toArray, hll]; rfl
    rw [he] at hgo
    rw [← hgo] at kk
    exact wpAny_execs_cons (wpAny_Return_some (wpAny_Constant_bool (kk _ _ (kb.trans S₇.keep))))
end
end
section
open PySem PySem.W PySem.Spec PySem.Calls PyProof.Rows
set_option maxRecDepth 100000
set_option maxHeartbeats 4000000
theorem g_match (P : Params) : nsFind (globE P) (Str.ofString "_ellipsis_match") = some (.ref 28) := by rfl
theorem keep_match (P : Params) : keepIn (hd.heap_39 P) (.ref 28) = true := by rfl
theorem len_dots : (Str.ofString "...").length = 3 := by decide +kernel
theorem len_mid : (Str.ofString "...|...").length = 7 := by decide +kernel
def seenF (xs : List Str) (i k : Fin 5) : Bool := if i = k then false else xs.all fun x => matchF x i k
/-- five times five truths -/
def Mat (h : Heap) (a : Addr) (m : Fin 5 → Fin 5 → Bool) : Prop := ∃ r : Fin 5 → Addr, h.IsList a (List.ofFn fun i => Value.ref (r i)).toArray ∧ ∀ i, h.IsList (r i) (List.ofFn fun k => Value.bool (m i k)).toArray
theorem Mat.keeps {h h' : Heap} {a : Addr} {m : Fin 5 → Fin 5 → Bool} (x : Mat h a m) (k : Keep h h') : Mat h' a m := let ⟨r, y, z⟩ := x; ⟨r, lk y k, fun i => lk (z i) k⟩
def badF (m : Fin 5 → Fin 5 → Bool) (i k j : Fin 5) : Bool := (m j i && !m j k) || (m k j && !m i j)
def nearF (m : Fin 5 → Fin 5 → Bool) (i k : Fin 5) : Bool := !m i k && decide (∀ j, badF m i k j = false)
section
variable {prog : Program} {w : World} {A : Around} {Q E : Value → Shared → Prop} {s : Shared} {h : Heap} {t : Nat}
theorem seen_spec {W : Addr} {wl : List (Str × Tok)} {i k : Fin 5} {ui uk : Tok} (R : Rm A 2 6) (G : Gl w h) (hW : h.IsList W (strValues wl).toArray) (hs : ∀ p ∈ wl, p.1.length ≤ 100)
    (kk : ∀ h' t', Keep h h' → Q (.bool (seenF (wl.map (·.1)) i k)) (sh s h' t')) :
    wpAny (model prog w) A (call (.ref 153) [.ref W, .int (i.val : Int) ui, .int (k.val : Int) uk]) Q E (sh s h t) := by
  refine q_call (d := 1) (u := 3) [Str.ofString "words", Str.ofString "i", Str.ofString "k", Str.ofString "word"] [Str.ofString "words", Str.ofString "i", Str.ofString "k"]
    [(Str.ofString "words", some (.ref W)), (Str.ofString "i", some (.int (i.val : Int) ui)), (Str.ofString "k", some (.int (k.val : Int) uk)), (Str.ofString "word", none)]
    R G rfl rfl rfl ⟨rfl, rfl, rfl⟩ rfl (by decide +kernel) rfl ?_
  intro env h₁ tk e R' S
  have G₁ := G.keeps S.keep
  have sl := sizeLine_big
  refine wpAny_execs_cons (q_if (wpAny_isTrue_Compare1 (q_ld S (by walk_at "has") (q_ld S (by walk_at "has") (q_eq (wpAny_truthy_bool ⟨fun hc => ?_, fun hc => wpAny_execs_nil ?_⟩))))))
  · have : i = k := by have := eq_of_beq hc; exact Fin.ext (by omega)
    have hf : seenF (wl.map (·.1)) i k = false := by unfold seenF; rw [if_pos this]
    rw [hf] at kk
    exact wpAny_execs_cons (wpAny_Return_some (wpAny_Constant_bool (kk _ _ S.keep)))
  have hik : i ≠ k := fun z => by subst z; simp at hc
  have hl : seenF (wl.map (·.1)) i k = (wl.map (·.1)).all fun x => matchF x i k := by unfold seenF; rw [if_neg hik]
  refine wpAny_execs_cons (q_forList (h₀ := h) (items := (strValues wl).toArray) R'.hd (fun j fr nw => ∃ xw, fr = [(Str.ofString "words", some (.ref W)), (Str.ofString "i", some (.int (i.val : Int) ui)), (Str.ofString "k", some (.int (k.val : Int) uk)), (Str.ofString "word", xw)] ∧ nw = [] ∧ ∀ j' p, j' < j → wl[j']? = some p → matchF p.1 i k = true) ?_ ?_ ?_)
  · exact q_ld S (by walk_at "has") ⟨W, h₁, _, _, [], rfl, rfl, lk hW S.keep, S.list_ne (lk hW S.keep), fun z => (nomatch z), S, _, rfl, rfl, fun j' p hj => absurd hj (Nat.not_lt_zero _)⟩
  · rintro j v b₁ h₇ fr nw t₇ hv ⟨xw, rfl, rfl, hgo⟩ k₁ S₇
    refine q_absF fun Q' hQ => ?_
    obtain ⟨p, hp, rfl⟩ : ∃ p, wl[j]? = some p ∧ v = .str p.1 p.2 := by
      have h1 : (strValues wl)[j]? = some v := by simpa using hv
      unfold strValues at h1
      rw [List.getElem?_map] at h1
      cases hj : wl[j]? with
      | none => rw [hj] at h1; cases h1
      | some z => rw [hj] at h1; exact ⟨z, rfl, (Option.some.inj h1).symm⟩
    have hps := hs p (List.mem_of_getElem? hp)
    refine wpAny_assign_Name (q_st S₇ (by walk_at "put") fun h₈ t₈ S₈ => ?_)
    have k8 := k₁.trans S₈.keep
    have G₈ := G.keeps k8
    have l1 := letter_len i
    have l2 := letter_len k
    have l3 := len_dots
    have l4 := len_mid
    refine wpAny_execs_cons (q_if (wpAny_isTrue_Not (wpAny_isTrue_value (q_fn G₈ S₈ e (g_match _) (keep_match _) (args_cons (wpAny_BinOp (wpAny_BinOp (wpAny_BinOp (wpAny_BinOp (q_cstr fun _ _ => Subscript_ (q_cstr fun _ _ => q_ld S₈ (by walk_at "has") (q_letter fun _ _ => q_adds (by omega) fun _ _ => q_cstr fun _ _ => q_adds (by rw [Str.length_append]; omega) fun _ _ => ?_))))))))))))
    refine Subscript_ (q_cstr fun _ _ => q_ld S₈ (by walk_at "has") (q_letter fun _ _ => q_adds (by rw [Str.length_append, Str.length_append]; omega) fun _ _ => q_cstr fun _ _ => q_adds (by rw [Str.length_append, Str.length_append, Str.length_append]; omega) fun _ _ => ?_))
    refine args_cons (q_ld S₈ (by walk_at "has") (args_nil ⟨G₈.kx, ?_⟩))
    refine match_spec (i := i) (k := k) R' G₈ hps fun h₉ t₉ k₉ => wpAny_truthy_bool ⟨fun hc => ?_, fun hc => ?_⟩
    · have hm : matchF p.1 i k = false := by simpa using hc
      have hf : seenF (wl.map (·.1)) i k = false := by
        rw [hl, List.all_eq_false]
        exact ⟨p.1, List.mem_map_of_mem (List.mem_of_getElem? hp), by rw [hm]; decide⟩
      rw [hf] at kk
      exact wpAny_execs_cons (wpAny_Return_some (wpAny_Constant_bool (hQ (.ret _) _ (kk _ _ (k8.trans k₉)))))
    · have hm : matchF p.1 i k = true := by simpa using hc
      refine wpAny_execs_nil (wpAny_execs_nil (hQ .next _ ⟨h₉, _, _, t₉, rfl, S₈.keeps k₉, _, rfl, rfl, fun j' p' hj hp' => ?_⟩))
      rcases Nat.lt_or_eq_of_le (Nat.le_of_lt_succ hj) with q | q
      · exact hgo j' p' q hp'
      · subst q; rw [hp] at hp'; cases hp'; exact hm
  · rintro h₇ fr nw t₇ ⟨xw, rfl, rfl, hgo⟩ S₇
    have hf : seenF (wl.map (·.1)) i k = true := by
      rw [hl, List.all_eq_true]
      intro x hx
      obtain ⟨p, hp, rfl⟩ := List.mem_map.mp hx
      obtain ⟨j, hj, hj'⟩ := List.getElem_of_mem hp
      exact hgo j p (by simpa [strValues] using hj) (by rw [List.getElem?_eq_getElem hj, hj'])
    rw [hf] at kk
    exact wpAny_execs_cons (wpAny_Return_some (wpAny_Constant_bool (kk _ _ S₇.keep)))
theorem ofFn_at {α : Type} (f : Fin 5 → α) (i : Fin 5) : (List.ofFn f)[(i.val : Int).toNat]? = some (f i) := by
  rw [Int.toNat_natCast, List.getElem?_ofFn, dif_pos i.isLt]
/-- x or y, as a test -/
theorem q_anyTrue2 {M : Model} {env : Env} {x y : Expr} {pos : Pos} {whole : Sem Value} {Q : Bool → Shared → Prop} {s : Shared}
    (k : wpAny M A (isTrue x env (eval x env)) (fun b s₁ => (b = false → wpAny M A (isTrue y env (eval y env)) Q E s₁) ∧ (b = true → Q true s₁)) E s) : wpAny M A (isTrue (.BoolOp .Or [x, y] pos) env whole) Q E s :=
  wpAny_isTrue_BoolOp (wpAny_allTrue_Or_cons (wpAny_mono k (fun b s₁ hb => by
    cases b with
    | false => exact wpAny_allTrue_Or_cons (wpAny_mono (hb.1 rfl) (fun c s₂ hc => by cases c with | false => exact wpAny_allTrue_Or_nil hc | true => exact hc) fun _ _ z => z)
    | true => exact hb.2 rfl) fun _ _ z => z))
/-- a[i][k] of a table, a test -/
theorem q_mat {env : Env} {a : Addr} {m : Fin 5 → Fin 5 → Bool} {v x y : Expr} {p1 p2 : Pos} {i k : Fin 5} {ui uk : Tok} {Q : Value → Shared → Prop}
    (hm : Mat h a m) (k1 : ∀ Q : Value → Shared → Prop, Q (.ref a) (sh s h t) → wpAny (model prog w) A (eval v env) Q E (sh s h t))
    (k2 : ∀ Q : Value → Shared → Prop, Q (.int (i.val : Int) ui) (sh s h t) → wpAny (model prog w) A (eval x env) Q E (sh s h t)) (k3 : ∀ Q : Value → Shared → Prop, Q (.int (k.val : Int) uk) (sh s h t) → wpAny (model prog w) A (eval y env) Q E (sh s h t))
    (kk : Q (.bool (m i k)) (sh s h t))
    (hs1 : ∀ l p j, subscripted x false (.ref l) (.int j p) = operate [.ref l, .int j p] (getItem (.ref l) (.int j p)) := by intro _ _ _; with_unfolding_all rfl)
    (hs2 : ∀ l p j, subscripted y false (.ref l) (.int j p) = operate [.ref l, .int j p] (getItem (.ref l) (.int j p)) := by intro _ _ _; with_unfolding_all rfl) :
    wpAny (model prog w) A (eval (.Subscript (.Subscript v x p1) y p2) env) Q E (sh s h t) := by
  obtain ⟨r, hr, hrr⟩ := hm
  have := i.isLt
  have := k.isLt
  exact Subscript_ (Subscript_ (k1 _ (k2 _ (q_item hr (by omega) (by omega) (ofFn_at _ i) (k3 _ (q_item (hrr i) (by omega) (by omega) (ofFn_at _ k) kk (hs2 _ _ _))) (hs1 _ _ _)))))
theorem near_spec {a : Addr} {m : Fin 5 → Fin 5 → Bool} {i k : Fin 5} {ui uk : Tok} (R : Rm A 1 3) (G : Gl w h) (hm : Mat h a m)
    (kk : ∀ h' t', Keep h h' → Q (.bool (nearF m i k)) (sh s h' t')) :
    wpAny (model prog w) A (call (.ref 160) [.ref a, .int (i.val : Int) ui, .int (k.val : Int) uk]) Q E (sh s h t) := by
  refine q_call (d := 0) (u := 0) [Str.ofString "left", Str.ofString "i", Str.ofString "k", Str.ofString "j"] [Str.ofString "left", Str.ofString "i", Str.ofString "k"]
    [(Str.ofString "left", some (.ref a)), (Str.ofString "i", some (.int (i.val : Int) ui)), (Str.ofString "k", some (.int (k.val : Int) uk)), (Str.ofString "j", none)]
    R G rfl rfl rfl ⟨rfl, rfl, rfl⟩ rfl (by decide +kernel) rfl ?_
  intro env h₁ tk e R' S
  have G₁ := G.keeps S.keep
  refine wpAny_execs_cons (q_if (wpAny_isTrue_value (q_mat (hm.keeps S.keep) (fun _ q => q_ld S (by walk_at "has") q) (fun _ q => q_ld S (by walk_at "has") q) (fun _ q => q_ld S (by walk_at "has") q) (wpAny_truthy_bool ⟨fun hc => ?_, fun hc => wpAny_execs_nil ?_⟩))))
  · have hf : nearF m i k = false := by unfold nearF; rw [hc]; rfl
    rw [hf] at kk
    exact wpAny_execs_cons (wpAny_Return_some (wpAny_Constant_bool (kk _ _ S.keep)))
  refine wpAny_execs_cons (q_forRange (h₀ := h) (a := 0) (b := 5) 5 R'.hd (by decide) (by decide) (fun j fr nw => ∃ xj, fr = [(Str.ofString "left", some (.ref a)), (Str.ofString "i", some (.int (i.val : Int) ui)), (Str.ofString "k", some (.int (k.val : Int) uk)), (Str.ofString "j", xj)] ∧ nw = [] ∧ ∀ j' : Fin 5, j'.val < j → badF m i k j' = false) ?_ ?_ ?_)
  · refine wpAny_Call_NameR (q_range G₁ S e (PyProof.Rows.callWith_type1 (args_cons (q_cint fun _ _ => args_nil (q_crange1 fun r h₂ t₂ a' b' c' k₂ _ hr => ?_)))))
    exact ⟨r, h₂, t₂, _, [], a', b', c', rfl, rfl, hr, S.keeps k₂, none, rfl, rfl, fun j' hj => absurd hj (Nat.not_lt_zero _)⟩
  · rintro j u b₁ h₇ fr nw t₇ hj ⟨xj, rfl, rfl, hgo⟩ k₁ S₇
    refine q_absF fun Q' hQ => ?_
    have e0 : (0 : Int) + (j : Int) = (((⟨j, hj⟩ : Fin 5).val : Nat) : Int) := by show 0 + (j : Int) = (j : Int); omega
    rw [e0]
    generalize hjj : (⟨j, hj⟩ : Fin 5) = jj
    have hjv : jj.val = j := by rw [← hjj]
    refine wpAny_assign_Name (q_st S₇ (by walk_at "put") fun h₈ t₈ S₈ => ?_)
    have k8 := k₁.trans S₈.keep
    have hm8 := hm.keeps k8
    refine q_cutr (fun s' => s' = sh s h₈ t₈ ∧ badF m i k jj = false) (q_if ?_) ?_
    · refine wpAny_mono (Q := fun b s' => b = badF m i k jj ∧ s' = sh s h₈ t₈) ?_ (fun b s' hb => ?_) fun _ _ z => z
      · have bad : ∀ b1 b2 b3 b4 : Bool, m jj i = b1 → m jj k = b2 → m k jj = b3 → m i jj = b4 → badF m i k jj = ((b1 && !b2) || (b3 && !b4)) := by rintro b1 b2 b3 b4 rfl rfl rfl rfl; rfl
        refine q_anyTrue2 (q_allTrue2 (wpAny_isTrue_value (q_mat hm8 (fun _ q => q_ld S₈ (by walk_at "has") q) (fun _ q => q_ld S₈ (by walk_at "has") q) (fun _ q => q_ld S₈ (by walk_at "has") q) (wpAny_truthy_bool ⟨fun h1 => ?_, fun h1 => ⟨fun _ => ?_, fun z => (by cases z)⟩⟩))))
        · refine wpAny_isTrue_Not (wpAny_isTrue_value (q_mat hm8 (fun _ q => q_ld S₈ (by walk_at "has") q) (fun _ q => q_ld S₈ (by walk_at "has") q) (fun _ q => q_ld S₈ (by walk_at "has") q) (wpAny_truthy_bool ⟨fun h2 => ?_, fun h2 => ⟨?_, rfl⟩⟩)))
          · refine q_allTrue2 (wpAny_isTrue_value (q_mat hm8 (fun _ q => q_ld S₈ (by walk_at "has") q) (fun _ q => q_ld S₈ (by walk_at "has") q) (fun _ q => q_ld S₈ (by walk_at "has") q) (wpAny_truthy_bool ⟨fun h3 => ?_, fun h3 => ⟨?_, rfl⟩⟩)))
            · refine wpAny_isTrue_Not (wpAny_isTrue_value (q_mat hm8 (fun _ q => q_ld S₈ (by walk_at "has") q) (fun _ q => q_ld S₈ (by walk_at "has") q) (fun _ q => q_ld S₈ (by walk_at "has") q) (wpAny_truthy_bool ⟨?_, rfl⟩)))
              have h2' : m jj k = true := by simpa using h2
              unfold badF; rw [h1, h3, h2']; cases m i jj <;> rfl
            · unfold badF; have h2' : m jj k = true := by simpa using h2
              rw [h1, h2', h3]; rfl
          · unfold badF; have h2' : m jj k = false := by simpa using h2
            rw [h1, h2']; rfl
        · refine q_allTrue2 (wpAny_isTrue_value (q_mat hm8 (fun _ q => q_ld S₈ (by walk_at "has") q) (fun _ q => q_ld S₈ (by walk_at "has") q) (fun _ q => q_ld S₈ (by walk_at "has") q) (wpAny_truthy_bool ⟨fun h3 => ?_, fun h3 => ⟨?_, rfl⟩⟩)))
          · refine wpAny_isTrue_Not (wpAny_isTrue_value (q_mat hm8 (fun _ q => q_ld S₈ (by walk_at "has") q) (fun _ q => q_ld S₈ (by walk_at "has") q) (fun _ q => q_ld S₈ (by walk_at "has") q) (wpAny_truthy_bool ⟨?_, rfl⟩)))
            unfold badF; rw [h1, h3]; cases m i jj <;> rfl
          · unfold badF; rw [h1, h3]; rfl
      · obtain ⟨rfl, rfl⟩ := hb
        refine ⟨fun hb => ?_, fun hb => wpAny_execs_nil (.inl ⟨rfl, rfl, hb⟩)⟩
        have hf : nearF m i k = false := by
          unfold nearF
          rw [decide_eq_false (fun z => by rw [z jj] at hb; exact absurd hb (by decide)), Bool.and_false]
        rw [hf] at kk
        exact wpAny_execs_cons (wpAny_Return_some (wpAny_Constant_bool (.inr ⟨_, rfl, hQ (.ret _) _ (kk _ _ k8)⟩)))
    · rintro _ ⟨rfl, hb⟩
      refine wpAny_execs_nil (hQ .next _ ⟨h₈, _, _, t₈, rfl, S₈, _, rfl, rfl, fun j' hj' => ?_⟩)
      rcases Nat.lt_or_eq_of_le (Nat.le_of_lt_succ hj') with q | q
      · exact hgo j' q
      · have : j' = jj := Fin.ext (by rw [hjv]; exact q)
        subst this; exact hb
  · rintro h₇ fr nw t₇ ⟨xj, rfl, rfl, hgo⟩ S₇
    have hf : nearF m i k = true := by
      unfold nearF
      rw [hc, Bool.not_false, Bool.true_and, decide_eq_true_eq]
      exact fun j => hgo j j.isLt
    rw [hf] at kk
    exact wpAny_execs_cons (wpAny_Return_some (wpAny_Constant_bool (kk _ _ S₇.keep)))
end
end
section
open PySem PySem.W PySem.Spec PySem.Calls PyProof.Rows
set_option maxRecDepth 100000
set_option maxHeartbeats 4000000
abbrev cellO (o : Obj) (v : Option Value) : Obj := { o with data := .cell v }
abbrev cell0 : Obj := { cls := .type "cell", data := .cell none }
section
variable {prog : Program} {w : World} {A : Around} {E : Value → Shared → Prop} {s : Shared} {h h₀ : Heap} {t : Nat} {env : Env} {fr : Locals} {nw nw' : Led} {x : Str} {c : Addr} {o : Obj} {v : Value} {v₀ : Option Value}
theorem q_stc {M : Model} {Q : Unit → Shared → Prop} (S : St h₀ env h fr nw) (hk : env.kindOf x = some .cell) (hc : env.cells.lookup x = some c) (hm : (c, cellO o v₀) ∈ nw) (ht : Turn nw c (cellO o (some v)) nw')
    (k : ∀ h', St h₀ env h' fr nw' → Heap.SameBut c h h' → Q () (sh s h' t)) : wpAny M A (storeName env x v) Q E (sh s h t) := by
  have ho : h.get? c = some (cellO o v₀) := S.get hm
  unfold storeName
  simp only [hk, S.fn]
  refine wpAny_bind (wpAny_cellOf hc ?_)
  unfold cellSet
  refine wpAny_bind (wpAny_load ho ?_)
  refine wpAny_update ho (k _ (S.turn ht (Heap.SameBut.update ..) ?_) (Heap.SameBut.update ..))
  exact (Heap.get?_update_self (h := h) (fun o => { o with data := .cell (some v) }) ho rfl).trans rfl
end
section
variable {prog : Program} {w : World} {A : Around} {E : Value → Shared → Prop} {s : Shared} {h : Heap} {t : Nat} {env : Env} {oscope : Scope} {ocells : List (Str × Addr)}
def CompC (prog : Program) (w : World) (A : Around) (s : Shared) (elt : Expr) (x : Str) (scope : Scope) (cl : List (Str × Addr)) (xv : Value) (s₁ : Shared) (K : Heap → Nat → Addr → Heap → Nat → Prop) : Prop :=
  ∃ h₁ t₁ n P, ∃ F : Nat → Value → Led → Prop, s₁ = sh s h₁ t₁ ∧ Src prog w A xv h₁ n P ∧ n ≤ sizeLine ∧
    (∀ c j v b₁ h' cenv t', EnvIs cenv scope ((x, c) :: cl) → j < n → P j v → Keep h₁ b₁ → b₁.IsCell c (some v) → St b₁ cenv h' [] [] →
      wpAny (model prog w) A (eval elt cenv) (fun y s' => ∃ h'' t'' os, s' = sh s h'' t'' ∧ Keep h' h'' ∧ F j y os ∧ Made h' h'' os) (fun _ _ => False) (sh s h' t')) ∧
    ∀ D h' t' ep, ∀ zs : List (Value × Led), Keep h₁ h' → h₁.get? D = none → h'.get? D = some (listObj (zs.map (·.1)) ep) → zs.length = n → (∀ j z, zs[j]? = some z → F j z.1 z.2) →
      (∀ z ∈ zs, Made h₁ h' z.2) → K h₁ t₁ D h' t'
theorem compC_core {elt iter : Expr} {x : Str} {px : Pos} {scope : Scope} {pos : Pos} {RR : Value → Addr → Result → Shared → Prop} {h₁ : Heap} {t₁ : Nat} {xv : Value} {n : Nat} {P : Nat → Value → Prop} {F : Nat → Value → Led → Prop}
    {E : Value → Shared → Prop} (e : EnvIs env oscope ocells) (hc : okComp scope = true) (hx : scope.names.lookup x = some .cell) (hc1 : ∀ n acc, cellsFrom n scope.names acc = (x, n) :: acc) (hc2 : ∀ h, pushCells h scope.names = h.push cell0) (cl : List (Str × Addr))
    (hsrc : Src prog w A xv h₁ n P) (hsz : n ≤ sizeLine)
    (helt : ∀ c j v b₁ h' cenv t', EnvIs cenv scope ((x, c) :: cl) → j < n → P j v → Keep h₁ b₁ → b₁.IsCell c (some v) → St b₁ cenv h' [] [] →
      wpAny (model prog w) A (eval elt cenv) (fun y s' => ∃ h'' t'' os, s' = sh s h'' t'' ∧ Keep h' h'' ∧ F j y os ∧ Made h' h'' os) (fun _ _ => False) (sh s h' t'))
    (hRR : ∀ D C h' t' ep, ∀ zs : List (Value × Led), ∀ m, h'.Ns C m → h₁.get? C = none → D ≠ C → Keep h₁ h' → h₁.get? D = none → h'.get? D = some (listObj (zs.map (·.1)) ep) → zs.length = n → (∀ j z, zs[j]? = some z → F j z.1 z.2) →
      (∀ z ∈ zs, ∀ p ∈ z.2, h'.get? p.1 = some p.2 ∧ h₁.get? p.1 = none ∧ p.1 ≠ C) → RR (.ref D) C (.ok .next) (sh s h' t')) :
    wpAny (model prog w) A (pyIter xv) (fun it s₂ => wpAny (model prog w) A (newList []) (fun acc s₃ => wpAny (model prog w) A (newFunctionEnv scope env.globals cl [] env.qual none .none (some env)) (fun cenv s₄ =>
      codeAny (model prog w) A (.compStart (.ListComp elt [⟨.Name x px, iter, [], 0⟩] scope pos) 0 it acc { cenv with scope := relabel scope env }) (RR acc cenv.locals) s₄) E s₃) E s₂) E (sh s h₁ t₁) := by
  simp only [okComp, Bool.and_eq_true, beq_iff_eq, List.all_eq_true, Bool.or_eq_true, bne_iff_ne, ne_eq] at hc
  obtain ⟨o, J, fp, hof, hit, W, hL, hJ, hfp⟩ := hsrc
  refine hit _ _ _ _ ?_
  refine wpAny_newObj_type (q_newEnv ?_)
  dsimp only
  rw [hc1, hc2]
  generalize hHA : h₁.push o = HA
  generalize hHB : HA.push { cls := .type "list", data := .seq ([] : List Value).toArray } = HB
  generalize hHC : HB.push { cls := .type "dict", data := .dict #[] } = HC
  have szA : HA.objs.size = h₁.objs.size + 1 := by rw [← hHA, Heap.size_push]
  have szB : HB.objs.size = HA.objs.size + 1 := by rw [← hHB, Heap.size_push]
  have szC : HC.objs.size = HB.objs.size + 1 := by rw [← hHC, Heap.size_push]
  rw [← szC]
  have kA : Keep h₁ HA := hHA ▸ Keep.push h₁ o
  have kB : Keep HA HB := hHB ▸ Keep.push HA _
  have kC : Keep HB HC := hHC ▸ Keep.push HB _
  have kD := Keep.push HC cell0
  have gD : HB.get? HA.objs.size = some (listObj [] 0) := hHB ▸ Heap.get?_push_size HA rfl
  have gC : (HC.push cell0).get? HC.objs.size = some cell0 := Heap.get?_push_size HC rfl
  have C0 := cenv_is (scope := scope) (cells := (x, HC.objs.size) :: cl) (C := HB.objs.size) (b := builtinsNs) e
  generalize hce : ({ (newEnv scope HB.objs.size env.globals ((x, HC.objs.size) :: cl) env.qual none .none (some env) builtinsNs) with scope := relabel scope env } : Env) = cenv at C0
  have hcl : cenv.locals = HB.objs.size := by rw [← hce]; rfl
  have nsD : HC.Ns HB.objs.size fun _ => none := hHC ▸ Heap.Ns.new HB (.type "dict")
  have S0 : St h₁ cenv (HC.push cell0) [] [(HA.objs.size, listObj [] 0), (HC.objs.size, cellO cell0 none)] := by
    refine ⟨?_, ⟨fun _ => none, by rw [hcl]; exact nsD.keeps kD, fun p hp => (nomatch hp)⟩, List.nodup_nil, fun p hp => (nomatch hp), ((kA.trans kB).trans kC).trans kD, ?_, ?_, ?_⟩
    · rw [← hce]; exact hc.1
    · rw [hcl]; exact none_of_ge (by omega)
    · intro p hp
      rcases List.mem_cons.mp hp with rfl | hp
      · exact ⟨kD _ _ (kC _ _ gD), none_of_ge (by omega)⟩
      · rw [List.mem_singleton] at hp; subst hp
        exact ⟨gC, none_of_ge (by omega)⟩
    · rw [hcl]
      have a1 : HB.objs.size ≠ HA.objs.size := by omega
      have a2 : HB.objs.size ≠ HC.objs.size := by omega
      have a3 : HA.objs.size ≠ HC.objs.size := by omega
      simp [a1, a2, a3]
  have Off0 : Off h₁ cenv [(HA.objs.size, listObj [] 0), (HC.objs.size, cellO cell0 none)] h₁.objs.size (h₁.objs.size :: fp) := by
    have lt : ∀ b : Nat, b ∈ h₁.objs.size :: fp → b < HA.objs.size := fun b hb => by
      rcases List.mem_cons.mp hb with rfl | hb
      · omega
      · obtain ⟨ob, hob⟩ := hfp b hb; have : (b : Nat) < h₁.objs.size := Heap.lt_size hob; omega
    refine ⟨none_of_ge (Nat.le_refl _), List.mem_cons_self, fun b hb z => ?_, fun b hb hm => ?_⟩
    · have := lt b hb; rw [z, hcl] at this; omega
    · have hb' : (b : Nat) < HA.objs.size := lt b hb
      rcases List.mem_cons.mp hm with h2 | h2
      · have h2' : (b : Nat) = HA.objs.size := h2
        rw [h2'] at hb'; exact Nat.lt_irrefl _ hb'
      · have h2' : (b : Nat) = HC.objs.size := List.mem_singleton.mp h2
        rw [h2'] at hb'; exact absurd hb' (Nat.not_lt.mpr (by omega))
  have hJ0 : J 0 (HC.push cell0) := W.frame _ _ _ (hHA ▸ hJ) fun b _ ob eb => kD _ _ (kC _ _ (kB _ _ eb))
  have hlk : cenv.cells.lookup x = some HC.objs.size := by rw [C0.ce]; simp
  have loop : ∀ t', codeAny (model prog w) A (.compLoop (.ListComp elt [⟨.Name x px, iter, [], 0⟩] scope pos) 0 (.ref h₁.objs.size) (.ref HA.objs.size) cenv) (RR (.ref HA.objs.size) HB.objs.size)
      (sh s (HC.push cell0) t') := by
    intro t'
    refine q_compLoop (F := F) W hL hsz (fun _ => []) (fun u => [(HC.objs.size, cellO cell0 u)]) [HC.objs.size] (fun _ => rfl) S0 hJ0 Off0 ?_ ?_ ?_
    · intro u v h o t Q' S k
      refine wpAny_assign_Name (q_stc (o := cell0) (v₀ := u) S (C0.kd _ _ hx (by decide)) hlk (by walk_at "mem") (nw' := [(HA.objs.size, o), (HC.objs.size, cellO cell0 (some v))]) (by walk_at "turn") fun h' S' hs' => k h' _ S' fun b ob _ hb eb => hs'.extBut b ob (fun z => hb (by rw [z]; exact List.mem_cons_self)) eb)
    · intro j v b₁ h' t' hj hP k S hb
      exact helt HC.objs.size j v b₁ h' cenv t' C0 hj hP k ⟨_, hb _ List.mem_cons_self, rfl⟩ S
    · intro h' t' ep zs u S hlen hF hM
      obtain ⟨m, hn, _⟩ := S.ns
      rw [hcl] at hn
      refine hRR HA.objs.size HB.objs.size h' t' ep zs m hn (none_of_ge (by omega)) (Nat.ne_of_lt (by omega)) S.keep (none_of_ge (by omega)) (S.new _ List.mem_cons_self).1 hlen hF fun z hz p hp => ?_
      obtain ⟨a1, a2, a3, _⟩ := hM z hz p hp
      exact ⟨a1, a2, by rw [← hcl]; exact a3⟩
  show codeAny (model prog w) A (.compStart _ 0 (.ref h₁.objs.size) (.ref HA.objs.size) cenv) (RR (.ref HA.objs.size) HB.objs.size) (sh s (HC.push cell0) t₁)
  exact codeAny_compStart_list (loop _) (W.self 0 _ _ _ hJ0 (loop _))
theorem q_compC {elt iter : Expr} {x : Str} {px : Pos} {scope : Scope} {pos : Pos} {Q : Value → Shared → Prop} (cl : List (Str × Addr))
    (e : EnvIs env oscope ocells) (hc : okComp scope = true) (hx : scope.names.lookup x = some .cell) (hc1 : ∀ n acc, cellsFrom n scope.names acc = (x, n) :: acc) (hc2 : ∀ h, pushCells h scope.names = h.push cell0)
    (hcl : closed ocells scope.names = true) (hcl' : closeOver ocells scope.names [] = cl)
    (hev : wpAny (model prog w) A (eval iter env) (fun xv s₁ => CompC prog w A s elt x scope cl xv s₁ fun _ _ D h' t' => Q (.ref D) (sh s h' t')) E (sh s h t))
    (hs : ∀ x, foldedSetIterable iter env x = pure x := by intro _; rfl) :
    wpAny (model prog w) A (eval (.ListComp elt [⟨.Name x px, iter, [], 0⟩] scope pos) env) Q E (sh s h t) := by
  have hc' := hc
  simp only [okComp, Bool.and_eq_true, beq_iff_eq, List.all_eq_true, Bool.or_eq_true, bne_iff_ne, ne_eq] at hc'
  rw [eval_ListComp]
  have hclo : closureFor scope env = pure cl := by rw [closureFor_eq (by rw [e.ce]; exact hcl), e.ce, hcl']
  refine wpAny_comprehension_free (use := none) rfl hs hclo hc'.1 (fun y hy hl => (hc'.2 y hy).resolve_left fun q => q hl) (wpAny_mono hev (fun xv s₁ h₁ => ?_) fun _ _ e => e)
  obtain ⟨h₁, t₁, n, P, F, rfl, hsrc, hsz, helt, hfin⟩ := h₁
  refine compC_core (RR := fun acc C => compPost (model prog w) A E none Q acc C) e hc hx hc1 hc2 cl hsrc hsz helt ?_
  intro D C h' t' ep zs m hn hC hDC k hD hlD hlen hF hM
  refine ⟨m, hn, fun h'' hs'' => hfin D h'' t' ep zs (fun b o eb => hs''.extBut b o (by rintro rfl; rw [hC] at eb; cases eb) (k b o eb)) hD ((hs''.2 D hDC).trans hlD) hlen hF fun z hz p hp => ?_⟩
  obtain ⟨a1, a2, a3⟩ := hM z hz p hp
  exact ⟨(hs''.2 _ a3).trans a1, a2⟩
end
end
section
open PySem PySem.W PySem.Spec PySem.Calls PyProof.Rows
set_option maxRecDepth 100000
set_option maxHeartbeats 4000000
abbrev Body := (Shared → Prop) → (Value → Shared → Prop) → Shared → Prop
def Body.Mono (B : Body) : Prop := ∀ K K' E E' s, (∀ s, K s → K' s) → (∀ e s, E e s → E' e s) → B K E s → B K' E' s
/-- what a turn asks -/
def TurnIs (prog : Program) (w : World) (A : Around) (e : Expr) (depth : Nat) (it acc : Value) (env : Env) (target : Expr) (B : Body) : Prop :=
  B.Mono ∧ ∀ (Q : PySem.Fin → Shared → Prop) (E : Value → Shared → Prop) (s : Shared), wpAny (model prog w) A (pyNext it) (fun r s₁ => match r with
    | none => Q (.done .next) s₁
    | some v => wpAny (model prog w) A (letOwnedTupleGo target it v) (fun _ s₂ => wpAny (model prog w) A (assign target env v) (fun _ s₃ => B (fun s₄ => wpAny (model prog w) A (again (.compLoop e depth it acc env)) Q E s₄) E s₃) E s₂) E s₁) E s →
    wpAny (model prog w) A (compTurn e depth it acc env) Q E s
section
variable {prog : Program} {w : World} {A : Around} {s : Shared} {h₀ h : Heap} {env : Env} {fr : Locals} {nw : Led} {t : Nat}
/-- a comprehension's loop, at whatever depth: the body is what a turn does behind the store -/
theorem q_cloop {R : Result → Shared → Prop} {elt target : Expr} {gens : List Comprehension} {scope : Scope} {pos p : Pos} {depth : Nat} {acc : Value} {B : Body} {I : Addr} {fp : List Addr} {n : Nat} {P : Nat → Value → Prop} {J : Nat → Heap → Prop}
    (hT : TurnIs prog w A (.ListComp elt gens scope pos) depth (.ref I) acc env target B)
    (W : Walks prog w A I fp [I] n P J) (hL : Live fp J) (S : St h₀ env h fr nw) (hJ : J 0 h) (O : Off h₀ env nw I fp)
    (Inv : Nat → Locals → Led → Prop) (h0 : Inv 0 fr nw)
    (turn : ∀ i v h₁ h fr nw t, i < n → P i v → Inv i fr nw → Keep h₀ h₁ → St h₁ env h fr nw → ∀ K : Shared → Prop, (∀ h' fr' nw' t', St h₁ env h' fr' nw' → Inv (i + 1) fr' nw' → K (sh s h' t')) →
      wpAny (model prog w) A (assign target env v) (fun _ s₂ => B K (fun _ _ => False) s₂) (fun _ _ => False) (sh s h t))
    (done : ∀ h fr nw t, Inv n fr nw → St h₀ env h fr nw → R (.ok .next) (sh s h t))
    (ht : ∀ (i : Nat) (v : Value) (h' : Heap) (t' : Nat) (Q' : Unit → Shared → Prop), P i v → J (i + 1) h' → Q' () (sh s h' t') → wpAny (model prog w) A (letOwnedTupleGo target (.ref I) v) Q' (fun _ _ => False) (sh s h' t')) :
    codeAny (model prog w) A (.compLoop (.ListComp elt gens scope pos) depth (.ref I) acc env) R (sh s h t) := by
  refine codeAny_loop rfl (fun k s' => ∃ i h fr nw t, s' = sh s h t ∧ St h₀ env h fr nw ∧ J i h ∧ Off h₀ env nw I fp ∧ Inv i fr nw ∧ i ≤ n ∧ k = n + 1 - i) ?_ (n + 1) ⟨0, h, fr, nw, t, rfl, S, hJ, O, h0, Nat.zero_le _, rfl⟩
  rintro k s' ⟨i, h, fr, nw, t, rfl, S, hJ, O, hI, hi, rfl⟩
  show wpAny _ A ((compTurn (.ListComp elt gens scope pos) depth (.ref I) acc env).onRaise (fun x => do noteFrame x env; theTreesLotGoes x)) _ _ (sh s h t)
  refine wpAny_noted ?_
  refine hT.2 _ _ _ ?_
  have one : ∀ b, b ∉ [I] ↔ b ≠ I := fun b => by simp
  by_cases hlt : i < n
  · refine W.item i _ _ _ hlt hJ fun v h' t' hP hJ' hk => ?_
    have S' := S.other (h' := h') O.it (O.lo _ O.me) (O.nn _ O.me) fun b o hb e => hk b o ((one b).mpr hb) e
    obtain ⟨h₁, k01, k1, S₁, hb₁⟩ := S'.rebase
    have fp₁ : ∀ b ∈ fp, ∃ o, h₁.get? b = some o := fun b hb => by
      obtain ⟨o, ho⟩ := hL _ _ hJ' b hb
      exact ⟨o, hb₁ b o ho (O.lo b hb) (O.nn b hb)⟩
    refine (wpAny_mono (ht i v h' t' (fun _ s₂ => s₂ = sh s h' t') hP hJ' rfl) (fun _ s₂ hs₂ => ?_) fun _ _ x => x.elim)
    subst hs₂
    refine (wpAny_mono (turn i v h₁ h' fr nw t' hlt hP hI k01 S₁ (fun s₃ => ∃ h' fr' nw' t', s₃ = sh s h' t' ∧ St h₁ env h' fr' nw' ∧ Inv (i + 1) fr' nw') fun h' fr' nw' t' a b => ⟨h', fr', nw', t', rfl, a, b⟩) (fun _ s₂ hx => hT.1 _ _ _ _ _ (fun s₃ hf => ?_) (fun _ _ x => x.elim) hx) fun _ _ x => x.elim)
    obtain ⟨h₂, fr₂, nw₂, t₂, rfl, S₂, hI₂⟩ := hf
    refine wpAny_pure ⟨rfl, n + 1 - (i + 1), by omega, i + 1, h₂, fr₂, nw₂, t₂, rfl, S₂.weaken k01, ?_, ⟨O.it, O.me, O.lo, fun b hb hm => ?_⟩, hI₂, hlt, rfl⟩
    · refine W.frame (i + 1) h' h₂ hJ' fun b hb o e => S₂.keep b o ?_
      exact hb₁ b o e (O.lo b hb) (O.nn b hb)
    · obtain ⟨p, hp, rfl⟩ := List.mem_map.mp hm
      obtain ⟨o, ho⟩ := fp₁ _ hb
      rw [(S₂.new p hp).2] at ho; cases ho
  · have hin : i = n := by omega
    subst hin
    refine W.done _ _ _ hJ fun h' t' hk => (done _ _ _ _ hI ?_)
    exact S.other (h' := h') O.it (O.lo _ O.me) (O.nn _ O.me) fun b o hb e => hk b o ((one b).mpr hb) e
end
section
variable {prog : Program} {w : World} {A : Around} {elt i1 i2 c : Expr} {x1 x2 : Expr} {scope : Scope} {pos : Pos} {it : Value} {acc : Value} {env : Env}
abbrev emitB (elt : Expr) (acc : Value) (env : Env) : Sem Unit := do let _ ← call (.builtin "list.append") [acc, ← eval elt env]
/-- a test, and what it lets in -/
def testB (prog : Program) (w : World) (A : Around) (c elt : Expr) (acc : Value) (env : Env) : Body := fun K E s =>
  wpAny (model prog w) A (isTrue c env (eval c env)) (fun ok s₄ => (ok = true → wpAny (model prog w) A (eval elt env) (fun x s₅ => wpAny (model prog w) A (call (.builtin "list.append") [acc, x]) (fun _ s₆ => K s₆) E s₅) E s₄) ∧ (ok = false → K s₄)) E s
theorem testB_mono : (testB prog w A c elt acc env).Mono := fun _ _ _ _ _ hK hE h =>
  wpAny_mono h (fun _ _ x => ⟨fun z => wpAny_mono (x.1 z) (fun _ _ y => wpAny_mono y (fun _ _ q => hK _ q) fun _ _ q => hE _ _ q) fun _ _ q => hE _ _ q, fun z => hK _ (x.2 z)⟩) fun _ _ q => hE _ _ q
theorem turn_in : TurnIs prog w A (.ListComp elt [⟨x1, i1, [], 0⟩, ⟨x2, i2, [c], 0⟩] scope pos) 1 it acc env x2 (testB prog w A c elt acc env) := by
  refine ⟨testB_mono, fun Q E s h => ?_⟩
  have e : compTurn (.ListComp elt [⟨x1, i1, [], 0⟩, ⟨x2, i2, [c], 0⟩] scope pos) 1 it acc env = (do
      standAt i2.pos
      match ← pyNext it with
      | none => pure (.done .next)
      | some v =>
        letOwnedTupleGo x2 it v
        assign x2 env v
        let mut ok := true
        for c in [c] do
          if ok then ok ← isTrue c env (eval c env)
        if ok then emitB elt acc env
        again (.compLoop (.ListComp elt [⟨x1, i1, [], 0⟩, ⟨x2, i2, [c], 0⟩] scope pos) 1 it acc env)) := by rfl
  rw [e]
  refine wpAny_bind (wpAny_standAt (wpAny_bind (wpAny_mono h (fun r s₁ h₁ => ?_) fun _ _ z => z)))
  cases r with
  | none => exact wpAny_pure h₁
  | some v =>
    refine wpAny_bind (wpAny_mono h₁ (fun _ s₂ h₂ => wpAny_bind (wpAny_mono h₂ (fun _ s₃ h₃ => ?_) fun _ _ z => z)) fun _ _ z => z)
    refine wpAny_bind (wpAny_tests_one (wpAny_mono h₃ (fun ok s₄ h₄ => ?_) fun _ _ z => z))
    cases ok with
    | true => exact wpAny_bind (wpAny_bind (wpAny_mono (h₄.1 rfl) (fun x s₅ h₅ => wpAny_bind (wpAny_mono h₅ (fun _ s₆ h₆ => wpAny_pure h₆) fun _ _ z => z)) fun _ _ z => z))
    | false => exact h₄.2 rfl
theorem turn_one : TurnIs prog w A (.ListComp elt [⟨x1, i1, [c], 0⟩] scope pos) 0 it acc env x1 (testB prog w A c elt acc env) := by
  refine ⟨testB_mono, fun Q E s h => ?_⟩
  rw [compTurn_list]
  refine wpAny_bind (wpAny_standAt (wpAny_bind (wpAny_mono h (fun r s₁ h₁ => ?_) fun _ _ z => z)))
  cases r with
  | none => exact wpAny_pure h₁
  | some v =>
    refine wpAny_bind (wpAny_mono h₁ (fun _ s₂ h₂ => wpAny_bind (wpAny_mono h₂ (fun _ s₃ h₃ => ?_) fun _ _ z => z)) fun _ _ z => z)
    refine wpAny_bind (wpAny_tests_one (wpAny_mono h₃ (fun ok s₄ h₄ => ?_) fun _ _ z => z))
    cases ok with
    | true => exact wpAny_bind (wpAny_bind (wpAny_mono (h₄.1 rfl) (fun x s₅ h₅ => wpAny_bind (wpAny_mono h₅ (fun _ s₆ h₆ => wpAny_pure h₆) fun _ _ z => z)) fun _ _ z => z))
    | false => exact h₄.2 rfl
def nestB (prog : Program) (w : World) (A : Around) (e i2 : Expr) (acc : Value) (env : Env) : Body := fun K E s =>
  wpAny (model prog w) A (eval i2 env) (fun x s₄ => wpAny (model prog w) A (foldedSetIterable i2 env x) (fun x s₅ => wpAny (model prog w) A (pyIter x) (fun it s₆ => wpAny (model prog w) A (runOwn (.compStart e 1 it acc env) env) (fun _ s₇ => K s₇) E s₆) E s₅) E s₄) E s
theorem nestB_mono {e : Expr} : (nestB prog w A e i2 acc env).Mono := fun _ _ _ _ _ hK hE h =>
  wpAny_mono h (fun _ _ x => wpAny_mono x (fun _ _ y => wpAny_mono y (fun _ _ z => wpAny_mono z (fun _ _ q => hK _ q) fun _ _ q => hE _ _ q) fun _ _ q => hE _ _ q) fun _ _ q => hE _ _ q) fun _ _ q => hE _ _ q
theorem turn_out : TurnIs prog w A (.ListComp elt [⟨x1, i1, [], 0⟩, ⟨x2, i2, [c], 0⟩] scope pos) 0 it acc env x1 (nestB prog w A (.ListComp elt [⟨x1, i1, [], 0⟩, ⟨x2, i2, [c], 0⟩] scope pos) i2 acc env) := by
  refine ⟨nestB_mono, fun Q E s h => ?_⟩
  have e : compTurn (.ListComp elt [⟨x1, i1, [], 0⟩, ⟨x2, i2, [c], 0⟩] scope pos) 0 it acc env = (do
      standAt i1.pos
      match ← pyNext it with
      | none => pure (.done .next)
      | some v =>
        letOwnedTupleGo x1 it v
        assign x1 env v
        let x ← eval i2 env
        standAt i2.pos
        let x ← foldedSetIterable i2 env x
        let _ ← runOwn (.compStart (.ListComp elt [⟨x1, i1, [], 0⟩, ⟨x2, i2, [c], 0⟩] scope pos) 1 (← holding [x] (pyIter x)) acc env) env
        again (.compLoop (.ListComp elt [⟨x1, i1, [], 0⟩, ⟨x2, i2, [c], 0⟩] scope pos) 0 it acc env)) := by rfl
  rw [e]
  refine wpAny_bind (wpAny_standAt (wpAny_bind (wpAny_mono h (fun r s₁ h₁ => ?_) fun _ _ z => z)))
  cases r with
  | none => exact wpAny_pure h₁
  | some v =>
    refine wpAny_bind (wpAny_mono h₁ (fun _ s₂ h₂ => wpAny_bind (wpAny_mono h₂ (fun _ s₃ h₃ => ?_) fun _ _ z => z)) fun _ _ z => z)
    refine wpAny_bind (wpAny_mono h₃ (fun x s₄ h₄ => wpAny_bind (wpAny_standAt (wpAny_bind (wpAny_mono h₄ (fun x' s₅ h₅ => wpAny_bind (wpAny_holding (wpAny_mono h₅ (fun it' s₆ h₆ => wpAny_bind h₆) fun _ _ z => z))) fun _ _ z => z)))) fun _ _ z => z)
end
end
section
open PySem PySem.W PySem.Spec PySem.Calls PyProof.Rows
set_option maxRecDepth 100000
set_option maxHeartbeats 4000000
/-- a table made since h -/
def MatNew (h h' : Heap) (D : Addr) (m : Fin 5 → Fin 5 → Bool) : Prop := h.get? D = none ∧ ∃ r : Fin 5 → Addr, (∃ ep, h'.get? D = some (listObj (List.ofFn fun i => Value.ref (r i)) ep)) ∧ ∀ i, h.get? (r i) = none ∧ ∃ ep, h'.get? (r i) = some (listObj (List.ofFn fun k => Value.bool (m i k)) ep)
theorem MatNew.mat {h h' b : Heap} {D : Addr} {m : Fin 5 → Fin 5 → Bool} (x : MatNew h h' D m) (k : ∀ a o, h.get? a = none → h'.get? a = some o → b.get? a = some o) : Mat b D m := by
  obtain ⟨n, r, ⟨ep, hD⟩, hr⟩ := x
  exact ⟨r, isList_of (k _ _ n hD), fun i => let ⟨n', ep', h'⟩ := hr i; isList_of (k _ _ n' h')⟩
theorem St.freeze {h₀ h h' : Heap} {env : Env} {fr : Locals} {nw : Led} (S : St h₀ env h fr nw) (k : Keep h h') : ∃ b, Keep h₀ b ∧ Keep b h' ∧ St b env h' fr nw ∧ ∀ a o, h.get? a = none → h'.get? a = some o → b.get? a = some o := by
  obtain ⟨b, k1, k2, S', hb⟩ := (S.keeps k).rebase
  refine ⟨b, k1, k2, S', fun a o n e => hb a o e (fun z => ?_) fun z => ?_⟩
  · obtain ⟨oL, hL⟩ := S.nsAt
    rw [z, hL] at n; cases n
  · obtain ⟨p, hp, q⟩ := List.mem_map.mp z
    rw [← q, (S.new p hp).1] at n; cases n
theorem list5 {α : Type} (l : List α) (hl : l.length = 5) (f : Fin 5 → α) (h : ∀ j : Fin 5, l[j.val]? = some (f j)) : l = List.ofFn f := by
  refine List.ext_getElem? fun j => ?_
  by_cases hj : j < 5
  · rw [h ⟨j, hj⟩, List.getElem?_ofFn, dif_pos hj]
  · rw [List.getElem?_eq_none (by omega), List.getElem?_ofFn, dif_neg hj]
section
variable {prog : Program} {w : World} {A : Around} {E : Value → Shared → Prop} {s : Shared} {h h₀ : Heap} {t : Nat} {env : Env} {oscope : Scope} {ocells : List (Str × Addr)} {fr : Locals} {nw : Led}
theorem q_matC {elt : Expr} {si so : Scope} {p1 p2 p3 p4 p5 p6 p7 p8 p9 p10 : Pos} {k5 k6 : Nat} {Q : Value → Shared → Prop} (m : Fin 5 → Fin 5 → Bool) (cl : List (Str × Addr)) (cl2 : Addr → List (Str × Addr)) (hA : A.handled = none) (S : St h₀ env h fr nw) (e : EnvIs env oscope ocells) (G : Gl w h)
    (hr : oscope.names.lookup (Str.ofString "range") = some NameKind.globalImplicit) (hr' : so.names.lookup (Str.ofString "range") = some NameKind.globalImplicit)
    (hc : okComp so = true) (hx : so.names.lookup (Str.ofString "i") = some .cell) (hc1 : ∀ n acc, cellsFrom n so.names acc = (Str.ofString "i", n) :: acc) (hc2 : ∀ h, pushCells h so.names = h.push cell0)
    (hcl : closed ocells so.names = true) (hcl' : closeOver ocells so.names [] = cl)
    (ic : okComp si = true) (ix : si.names.lookup (Str.ofString "k") = some .local) (icell : ∀ y ∈ si.names, y.2 ≠ .cell)
    (icl : ∀ c, closed ((Str.ofString "i", c) :: cl) si.names = true) (icl' : ∀ c, closeOver ((Str.ofString "i", c) :: cl) si.names [] = cl2 c)
    (helt : ∀ (i k : Fin 5) c b₁ h' cenv t' ui uk, EnvIs cenv si (cl2 c) → Keep h b₁ → b₁.IsCell c (some (.int (i.val : Int) ui)) → St b₁ cenv h' [(Str.ofString "k", some (.int (k.val : Int) uk))] [] →
      wpAny (model prog w) A (eval elt cenv) (fun y s' => ∃ h'' t'', y = .bool (m i k) ∧ s' = sh s h'' t'' ∧ Keep h' h'') (fun _ _ => False) (sh s h' t'))
    (kk : ∀ D h' t', Keep h h' → MatNew h h' D m → Q (.ref D) (sh s h' t')) :
    wpAny (model prog w) A (eval (.ListComp (.ListComp elt [⟨.Name (Str.ofString "k") p1, .Call (.Name (Str.ofString "range") p2) [.Constant (.int 5) k5 p3] [] p4, [], 0⟩] si p5) [⟨.Name (Str.ofString "i") p6, .Call (.Name (Str.ofString "range") p7) [.Constant (.int 5) k6 p8] [] p9, [], 0⟩] so p10) env) Q E (sh s h t) := by
  refine q_compC cl e hc hx hc1 hc2 hcl hcl' ?_
  refine wpAny_Call_NameR (q_range G S e (PyProof.Rows.callWith_type1 (args_cons (q_cint fun _ _ => args_nil (q_crange1 fun r h₂ t₂ a b c k₂ _ hr₂ => ?_)))) hr)
  refine ⟨h₂, t₂, 5, _, fun j y os => ∃ a ep, ∃ hj : j < 5, y = .ref a ∧ os = [(a, listObj (List.ofFn fun k => Value.bool (m ⟨j, hj⟩ k)) ep)], rfl, Src.range 5 hA hr₂ (by decide) (by decide), by have := sizeLine_big; omega, ?_, ?_⟩
  · rintro c j v b₁ h' cenv t' e' hj ⟨u, rfl⟩ k₁ ci S'
    have G' := (G.keeps k₂).keeps (k₁.trans S'.keep)
    have e0 : (0 : Int) + (j : Int) = (((⟨j, hj⟩ : Fin 5).val : Nat) : Int) := by show 0 + (j : Int) = (j : Int); omega
    rw [e0] at ci
    refine q_comp (cl2 c) e' ic ix (by decide +kernel) icell (icl c) (icl' c) ?_
    refine wpAny_Call_NameR (q_range G' S' e' (PyProof.Rows.callWith_type1 (args_cons (q_cint fun _ _ => args_nil (q_crange1 fun r h₃ t₃ a b c' k₃ _ hr₃ => ?_)))) hr')
    refine ⟨h₃, t₃, 5, _, fun k y os => os = [] ∧ ∃ hk : k < 5, y = .bool (m ⟨j, hj⟩ ⟨k, hk⟩), rfl, Src.range 5 hA hr₃ (by decide) (by decide), by have := sizeLine_big; omega, ?_, ?_⟩
    · rintro k v b₃ h'' cenv' t'' e'' hk ⟨u', rfl⟩ k₄ S''
      have e0 : (0 : Int) + (k : Int) = (((⟨k, hk⟩ : Fin 5).val : Nat) : Int) := by show 0 + (k : Int) = (k : Int); omega
      rw [e0] at S''
      have kall : Keep b₁ b₃ := (S'.keep.trans k₃).trans k₄
      refine wpAny_mono (helt ⟨j, hj⟩ ⟨k, hk⟩ c b₃ h'' cenv' t'' u u' e'' ((k₂.trans k₁).trans kall) (ci.keeps kall) S'') (fun y s' hy => ?_) fun _ _ z => z
      obtain ⟨h5, t5, rfl, rfl, k5⟩ := hy
      exact ⟨h5, t5, [], rfl, k5, ⟨rfl, hk, rfl⟩, fun p hp => (nomatch hp)⟩
    · intro D h'' t'' ep zs k₄ hD hlD hn hF _
      have el : zs.map (·.1) = List.ofFn fun k => Value.bool (m ⟨j, hj⟩ k) := by
        refine list5 _ (by rw [List.length_map]; exact hn) _ fun k => ?_
        have hk : k.val < zs.length := by rw [hn]; exact k.isLt
        obtain ⟨_, hk', hy⟩ := hF k.val _ (List.getElem?_eq_getElem hk)
        rw [List.getElem?_map, List.getElem?_eq_getElem hk]
        exact congrArg some hy
      rw [el] at hlD
      refine ⟨h'', t'', [(D, listObj (List.ofFn fun k => Value.bool (m ⟨j, hj⟩ k)) ep)], rfl, k₃.trans k₄, ⟨D, ep, hj, rfl, rfl⟩, fun p hp => ?_⟩
      rw [List.mem_singleton] at hp; subst hp
      refine ⟨hlD, ?_⟩
      cases q : h'.get? D with
      | none => rfl
      | some o => rw [k₃ _ _ q] at hD; cases hD
  · intro D h' t' ep zs k₄ hD hlD hn hF hM
    have none2 : ∀ {a : Addr}, h₂.get? a = none → h.get? a = none := fun {a} n => by
      cases q : h.get? a with
      | none => rfl
      | some o => rw [k₂ _ _ q] at n; cases n
    have hz : ∀ j : Fin 5, ∃ a ep, (zs.map (·.1))[j.val]? = some (Value.ref a) ∧ h.get? a = none ∧ h'.get? a = some (listObj (List.ofFn fun k => Value.bool (m j k)) ep) := fun j => by
      have hj : j.val < zs.length := by rw [hn]; exact j.isLt
      obtain ⟨a, ep, hj', hy, ho⟩ := hF j.val _ (List.getElem?_eq_getElem hj)
      have hm := hM zs[j.val] (List.getElem_mem hj) _ (by rw [ho]; exact List.mem_cons_self)
      refine ⟨a, ep, ?_, none2 hm.2, hm.1⟩
      rw [List.getElem?_map, List.getElem?_eq_getElem hj]
      exact congrArg some hy
    obtain ⟨r, hr⟩ := Classical.axiomOfChoice hz
    refine kk D h' t' (k₂.trans k₄) ⟨none2 hD, r, ⟨ep, ?_⟩, fun i => let ⟨ep, _, x, y⟩ := hr i; ⟨x, ep, y⟩⟩
    rw [hlD, list5 (zs.map (·.1)) (by rw [List.length_map]; exact hn) _ fun j => (hr j).choose_spec.1]
end
end
section
open PySem PySem.W PySem.Spec PySem.Calls PyProof.Rows
set_option maxRecDepth 100000
set_option maxHeartbeats 4000000
def leadR (r : Nat) : Str := leadGo 5 ((r : Int) + 1) (Str.ofString "")
theorem leadF_R (n : Int) : ∃ r : Fin 31, leadF n = leadR r.val := by
  have h0 := Int.fmod_nonneg_of_pos n (b := 31) (by decide)
  have h1 := Int.fmod_lt_of_pos n (b := 31) (by decide)
  refine ⟨⟨(n.fmod 31).toNat, by omega⟩, ?_⟩
  unfold leadF leadR
  congr 1
  show n.fmod 31 + 1 = ((n.fmod 31).toNat : Int) + 1
  omega
abbrev rowR (r : Nat) : Str := leadR r ++ Str.ofString "x "
theorem less_fin : ∀ i j : Fin 31, lessF (wsF (rowR i)) (wsF (rowR j)) = belowF (colsF (leadR i)) (colsF (leadR j)) [1, 2, 3, 4, 5] := by decide +kernel
theorem small_fin : ∀ i : Fin 31, (wsF (rowR i)).count.length ≤ 100 ∧ 0 ≤ (wsF (rowR i)).b ∧ (wsF (rowR i)).b ≤ 100 := by decide +kernel
theorem level_fin : ∀ i : Fin 31, ∀ z : Fin 5, levelF (wsF (rowR i)) (1 + (z.val : Int)) = (colsF (leadR i)).getD z.val 0 := by decide +kernel
theorem row_len : ∀ i : Fin 31, (rowR i).cps.size ≤ 500 := by decide +kernel
end
section
open PySem PySem.W PySem.Spec PySem.Calls PyProof.Rows
open PySem.Builtin PySem.Builtin.Str
set_option maxRecDepth 100000
set_option maxHeartbeats 4000000
theorem occ_stay (s sub : Str) (hi : Nat) : ∀ (l : List Nat) (i f : Nat), (forIn l ((#[i] : Array Nat), f) (StrLaws.occBody s sub hi 1)).run.fst = #[i]
  | [], _, _ => rfl
  | a :: l, i, f => by
    rw [List.forIn_cons]
    unfold StrLaws.occBody
    rw [if_neg (by simp)]
    exact occ_stay s sub hi l i f
theorem occ_first (s sub : Str) (hi : Nat) : ∀ (l : List Nat) (free : Nat), (∀ i ∈ l, free ≤ i) →
    (forIn l ((#[] : Array Nat), free) (StrLaws.occBody s sub hi 1)).run.fst = (l.find? fun i => decide (i + sub.length ≤ hi) && subAt s sub i).toArray
  | [], _, _ => rfl
  | a :: l, free, hf => by
    rw [List.forIn_cons, List.find?_cons]
    unfold StrLaws.occBody
    have ha : free ≤ a := hf a List.mem_cons_self
    by_cases hc : a + sub.length ≤ hi ∧ subAt s sub a = true
    · rw [if_pos ⟨⟨⟨by simp, ha⟩, hc.1⟩, hc.2⟩]
      have e : (decide (a + sub.length ≤ hi) && subAt s sub a) = true := by rw [hc.2, decide_eq_true hc.1]; rfl
      rw [e]
      exact occ_stay s sub hi l a _
    · have c2 : ¬ (((((#[] : Array Nat), free).fst.size < 1 ∧ ((#[] : Array Nat), free).snd ≤ a) ∧ a + sub.length ≤ hi) ∧ subAt s sub a = true) := fun h => hc ⟨h.1.2, h.2⟩
      rw [if_neg c2]
      have e : (decide (a + sub.length ≤ hi) && subAt s sub a) = false := by
        rw [Bool.eq_false_iff]
        intro z
        rw [Bool.and_eq_true, decide_eq_true_eq] at z
        exact hc z
      rw [e]
      exact occ_first s sub hi l free fun i hi' => hf i (List.mem_cons_of_mem _ hi')
theorem find3_eq (x y : Str) (p : Nat) : Txt.find3 x y (p : Int) = match (List.range' p (x.length + 1 - p)).find? fun i => decide (i + y.length ≤ x.length) && subAt x y i with | some i => (i : Int) | none => -1 := by
  have e : fromIndex x.length (p : Int) = p := by unfold fromIndex; rw [if_neg (by omega)]; omega
  unfold Txt.find3
  rw [e, StrLaws.occ_eq, occ_first x y x.length _ p (fun i hi => by rw [List.mem_range'] at hi; omega)]
  cases (List.range' p (x.length + 1 - p)).find? fun i => decide (i + y.length ≤ x.length) && subAt x y i with
  | none => rfl
  | some i => rfl
/-- what lies behind the first c -/
def after (l : List Nat) (c : Nat) : Option (List Nat) := match l.dropWhile (· != c) with
  | [] => none
  | _ :: r => some r
theorem find3_one (x : Str) (c p : Nat) (hp : p ≤ x.length) : match after (x.cps.toList.drop p) c with
    | none => Txt.find3 x ⟨#[c]⟩ (p : Int) < 0
    | some r => ∃ q : Nat, Txt.find3 x ⟨#[c]⟩ (p : Int) = (q : Int) ∧ q + 1 ≤ x.length ∧ r = x.cps.toList.drop (q + 1) := by
  have hl : x.length = x.cps.toList.length := by simp [Str.length]
  have key : ∀ i, (decide (i + (⟨#[c]⟩ : Str).length ≤ x.length) && subAt x ⟨#[c]⟩ i) = true ↔ x.cps.toList[i]? = some c := fun i => by
    rw [Bool.and_eq_true, decide_eq_true_eq]; exact StrLaws.subAt_one x c i
  rw [find3_eq]
  cases hf : (List.range' p (x.length + 1 - p)).find? fun i => decide (i + (⟨#[c]⟩ : Str).length ≤ x.length) && subAt x ⟨#[c]⟩ i with
  | none =>
    rw [List.find?_eq_none] at hf
    have hn : c ∉ x.cps.toList.drop p := fun hm => by
      obtain ⟨i, hi⟩ := List.mem_iff_getElem?.mp hm
      rw [List.getElem?_drop] at hi
      have hlt := (List.getElem?_eq_some_iff.mp hi).1
      exact hf (p + i) (by rw [List.mem_range']; exact ⟨i, by omega, by omega⟩) ((key _).mpr hi)
    unfold after
    rw [dropWhile_none hn]
    show (-1 : Int) < 0
    decide
  | some q =>
    obtain ⟨hq, as, bs, hab, has⟩ := List.find?_eq_some_iff_append.mp hf
    have hqc := (key q).mp hq
    have hlt := (List.getElem?_eq_some_iff.mp hqc).1
    have hqm : q ∈ List.range' p (x.length + 1 - p) := by rw [hab]; simp
    rw [List.mem_range'] at hqm
    obtain ⟨j, hj, hqj⟩ := hqm
    have first : ∀ k, p ≤ k → k < q → x.cps.toList[k]? ≠ some c := fun k h1 h2 hk => by
      have hm : k ∈ List.range' p (x.length + 1 - p) := by rw [List.mem_range']; exact ⟨k - p, by omega, by omega⟩
      rw [hab] at hm
      have hso : (List.range' p (x.length + 1 - p)).Pairwise (· < ·) := List.pairwise_lt_range'
      rw [hab, List.pairwise_append] at hso
      rcases List.mem_append.mp hm with z | z
      · have := has k z
        rw [(key k).mpr hk] at this
        cases this
      · rcases List.mem_cons.mp z with z | z
        · omega
        · have := List.rel_of_pairwise_cons hso.2.1 z
          omega
    have hd := dropWhile_at (l := x.cps.toList.drop p) (i := q - p) (c := c) (by rw [List.getElem?_drop]; rw [show p + (q - p) = q by omega]; exact hqc) fun k hk => by
      rw [List.getElem?_drop]
      exact first (p + k) (by omega) (by omega)
    unfold after
    rw [hd]
    refine ⟨q, rfl, by omega, ?_⟩
    rw [List.drop_drop]
    congr 1
    omega
theorem find3_nil (x : Str) (p : Nat) (hp : p ≤ x.length) : Txt.find3 x ⟨#[]⟩ (p : Int) = (p : Int) := by
  rw [find3_eq]
  have e : x.length + 1 - p = (x.length - p) + 1 := by omega
  rw [e, List.range'_succ, List.find?_cons]
  have : (decide (p + (⟨#[]⟩ : Str).length ≤ x.length) && subAt x ⟨#[]⟩ p) = true := by
    rw [Bool.and_eq_true, decide_eq_true_eq]
    refine ⟨hp, ?_⟩
    unfold subAt
    have : (⟨#[]⟩ : Str).length = 0 := rfl
    rw [this, Nat.add_zero]
    simp
    exact Nat.min_le_left _ _
  rw [this]
def matchL (l : List Nat) (a b : Nat) : Bool := match after l a with
  | none => false
  | some r => match after r 124 with
    | none => false
    | some r' => (after r' b).isSome
theorem nil_is : Str.ofString "" = ⟨#[]⟩ := by decide +kernel
theorem bar_is : Str.ofString "|" = ⟨#[124]⟩ := by decide +kernel
theorem mtGo_step {x : Str} {c p : Nat} {r : List Str} (hp : p ≤ x.length) : mtGo x (⟨#[c]⟩ :: r) (p : Int) = match after (x.cps.toList.drop p) c with
    | none => false
    | some l => mtGo x r ((x.length - l.length : Nat) : Int) := by
  have h := find3_one x c p hp
  rw [mtGo]
  cases ha : after (x.cps.toList.drop p) c with
  | none =>
    rw [ha] at h
    rw [if_pos h]
  | some l =>
    rw [ha] at h
    obtain ⟨q, h1, h2, h3⟩ := h
    have hl : x.length = x.cps.toList.length := by simp [Str.length]
    rw [h1, if_neg (by omega)]
    have e : x.length - l.length = q + 1 := by rw [h3, List.length_drop]; omega
    show mtGo x r ((q : Int) + ((1 : Nat) : Int)) = mtGo x r _
    rw [e]
    rfl
theorem after_drop {x : Str} {c p : Nat} {l : List Nat} (hp : p ≤ x.length) (h : after (x.cps.toList.drop p) c = some l) : x.cps.toList.drop (x.length - l.length) = l ∧ x.length - l.length ≤ x.length := by
  have h' := find3_one x c p hp
  rw [h] at h'
  obtain ⟨q, _, h2, h3⟩ := h'
  have hl : x.length = x.cps.toList.length := by simp [Str.length]
  have e : x.length - l.length = q + 1 := by rw [h3, List.length_drop]; omega
  rw [e]
  exact ⟨h3.symm, h2⟩
theorem matchF_eq (x : Str) (i k : Fin 5) : matchF x i k = matchL x.cps.toList (97 + i.val) (97 + k.val) := by
  unfold matchF partsF matchL letter
  rw [nil_is, bar_is]
  have z : mtGo x (⟨#[]⟩ :: [⟨#[97 + i.val]⟩, ⟨#[124]⟩, ⟨#[97 + k.val]⟩, ⟨#[]⟩]) 0 = mtGo x [⟨#[97 + i.val]⟩, ⟨#[124]⟩, ⟨#[97 + k.val]⟩, ⟨#[]⟩] ((0 : Nat) : Int) := by
    rw [mtGo]
    have := find3_nil x 0 (Nat.zero_le _)
    have h0 : ((0 : Nat) : Int) = 0 := rfl
    rw [h0] at this
    rw [this, if_neg (by decide)]
    rfl
  rw [z, mtGo_step (Nat.zero_le _), List.drop_zero]
  cases h1 : after x.cps.toList (97 + i.val) with
  | none => rfl
  | some l1 =>
    have a1 := after_drop (x := x) (p := 0) (Nat.zero_le _) (by rw [List.drop_zero]; exact h1)
    dsimp only
    rw [mtGo_step a1.2, a1.1]
    cases h2 : after l1 124 with
    | none => rfl
    | some l2 =>
      have a2 := after_drop (x := x) a1.2 (by rw [a1.1]; exact h2)
      dsimp only
      rw [mtGo_step a2.2, a2.1]
      cases h3 : after l2 (97 + k.val) with
      | none => rfl
      | some l3 =>
        have a3 := after_drop (x := x) a2.2 (by rw [a2.1]; exact h3)
        dsimp only
        rw [mtGo, find3_nil x _ a3.2, if_neg (by omega)]
        rfl
end
section
open PySem PySem.W PySem.Spec PySem.Calls PyProof.Rows
set_option maxRecDepth 100000
set_option maxHeartbeats 4000000
/-- the word, a list of codes -/
def wdL (lt ne : Fin 5 → Fin 5 → Bool) : Nat → List (Fin 5) → List Nat → Fin 5 → List Nat
  | 0, _, wd, _ => wd
  | f + 1, L, wd, z => wdL lt ne f (popL lt L.dropLast (L.getLastD 0)) ((bif ne (popV L.dropLast (L.getLastD 0)) z then wd ++ [124] else wd) ++ [97 + (popV L.dropLast (L.getLastD 0)).val]) (popV L.dropLast (L.getLastD 0))
theorem str_toArray (x : Str) : (⟨x.cps.toList.toArray⟩ : Str) = x := by cases x; rfl
theorem str_ext {x y : Str} (h : x.cps.toList = y.cps.toList) : x = y := by rw [← str_toArray x, h, str_toArray]
theorem str_app (x y : Str) : (x ++ y).cps.toList = x.cps.toList ++ y.cps.toList := by
  show (x.cps ++ y.cps).toList = _
  rw [Array.toList_append]
theorem wdGo_eq (st : Fin 5 → Int) (ne : Fin 5 → Fin 5 → Bool) (hne : ∀ a b, (st a != st b) = ne a b) : ∀ (f : Nat) (L : List (Fin 5)) (wd : Str) (z : Fin 5), (wdGo st f L wd (st z)).cps.toList = wdL (ltT st) ne f L wd.cps.toList z
  | 0, _, _, _ => rfl
  | f + 1, L, wd, z => by
    rw [wdGo, wdL, hne, wdGo_eq st ne hne f]
    congr 1
    rw [str_app]
    show _ ++ [97 + _] = _
    congr 1
    cases ne (popV L.dropLast (L.getLastD 0)) z with
    | true => rw [if_pos rfl, str_app, bar_is]; rfl
    | false => rw [if_neg (by decide)]; rfl
def rkN (st : Fin 5 → Int) (i : Fin 5) : Nat := (List.finRange 5).countP fun j => decide (st j < st i)
theorem countP_lt {α : Type} (p q : α → Bool) : ∀ (l : List α), (∀ x ∈ l, p x = true → q x = true) → (∃ x ∈ l, q x = true ∧ p x = false) → l.countP p < l.countP q
  | [], _, ⟨x, hx, _⟩ => nomatch hx
  | a :: r, h, ⟨x, hx, hq, hp⟩ => by
    have hr : ∀ x ∈ r, p x = true → q x = true := fun x hx => h x (List.mem_cons_of_mem _ hx)
    have hle : r.countP p ≤ r.countP q := List.countP_mono_left hr
    rw [List.countP_cons, List.countP_cons]
    rcases List.mem_cons.mp hx with rfl | hx
    · rw [hq, hp, if_pos rfl, if_neg (by decide)]; omega
    · have ih := countP_lt p q r hr ⟨x, hx, hq, hp⟩
      have ha := h a List.mem_cons_self
      cases hpa : p a with
      | true => rw [ha hpa]; omega
      | false => rw [if_neg (by decide)]; split <;> omega
theorem rkN_lt {st : Fin 5 → Int} {i k : Fin 5} (h : st i < st k) : rkN st i < rkN st k :=
  countP_lt _ _ _ (fun x _ hx => by rw [decide_eq_true_eq] at hx ⊢; omega) ⟨i, List.mem_finRange i, decide_eq_true h, decide_eq_false (by omega)⟩
theorem rkN_eq {st : Fin 5 → Int} {i k : Fin 5} (h : st i = st k) : rkN st i = rkN st k := by unfold rkN; rw [h]
theorem rkN_lt_iff (st : Fin 5 → Int) (i k : Fin 5) : st i < st k ↔ rkN st i < rkN st k := by
  refine ⟨rkN_lt, fun h => ?_⟩
  rcases Int.lt_trichotomy (st i) (st k) with q | q | q
  · exact q
  · rw [rkN_eq q] at h; omega
  · have := rkN_lt q; omega
theorem rkN_eq_iff (st : Fin 5 → Int) (i k : Fin 5) : st i = st k ↔ rkN st i = rkN st k := by
  refine ⟨rkN_eq, fun h => ?_⟩
  rcases Int.lt_trichotomy (st i) (st k) with q | q | q
  · have := rkN_lt q; omega
  · exact q
  · have := rkN_lt q; omega
theorem rkN_5 (st : Fin 5 → Int) (i : Fin 5) : rkN st i < 5 := by
  have h : rkN st i < (List.finRange 5).countP fun _ => true := countP_lt _ _ _ (fun _ _ _ => rfl) ⟨i, List.mem_finRange i, rfl, decide_eq_false (by omega)⟩
  rw [List.countP_true, List.length_finRange] at h
  exact h
/-- the order, out of ranks -/
def ltN (r : Fin 5 → Nat) (i j : Fin 5) : Bool := Nat.blt (r i) (r j) || (Nat.beq (r i) (r j) && Nat.blt i.val j.val)
def neN (r : Fin 5 → Nat) (i j : Fin 5) : Bool := !Nat.beq (r i) (r j)
theorem ltT_rk (st : Fin 5 → Int) : ltT st = ltN (rkN st) := by
  funext i j
  unfold ltT ltP ltN
  have e1 : decide (st i < st j) = Nat.blt (rkN st i) (rkN st j) := by
    rw [Bool.eq_iff_iff, decide_eq_true_eq, rkN_lt_iff]
    exact Iff.of_eq Nat.blt_eq.symm
  have e2 : (st i == st j) = Nat.beq (rkN st i) (rkN st j) := by
    rw [Bool.eq_iff_iff, beq_iff_eq, rkN_eq_iff]
    exact Iff.of_eq Nat.beq_eq.symm
  have e3 : decide ((i.val : Int) < (j.val : Int)) = Nat.blt i.val j.val := by
    rw [Bool.eq_iff_iff, decide_eq_true_eq]
    exact Iff.trans (Int.ofNat_lt (n := i.val) (m := j.val)) (Iff.of_eq Nat.blt_eq.symm)
  rw [e1, e2, e3]
theorem neT_rk (st : Fin 5 → Int) (a b : Fin 5) : (st a != st b) = neN (rkN st) a b := by
  unfold neN
  have e2 : (st a == st b) = Nat.beq (rkN st a) (rkN st b) := by
    rw [Bool.eq_iff_iff, beq_iff_eq, rkN_eq_iff]
    exact Iff.of_eq Nat.beq_eq.symm
  show (!(st a == st b)) = _
  rw [e2]
def wordN (r : Fin 5 → Nat) : List Nat := wdL (ltN r) (neN r) 5 (hfF (ltN r) [0, 1, 2, 3, 4]) [] ((hfF (ltN r) [0, 1, 2, 3, 4]).getD 0 0)
theorem wordF_eq (st : Fin 5 → Int) : (wordF st).cps.toList = wordN (rkN st) := by
  unfold wordF wordN
  rw [wdGo_eq st (neN (rkN st)) (neT_rk st), ltT_rk, nil_is]
def rankOf (a b c d e : Nat) (i : Fin 5) : Nat := match i with
  | ⟨0, _⟩ => a
  | ⟨1, _⟩ => b
  | ⟨2, _⟩ => c
  | ⟨3, _⟩ => d
  | ⟨_ + 4, _⟩ => e
def fives : List (Fin 5) := [0, 1, 2, 3, 4]
def okRank (r : Fin 5 → Nat) : Bool := fives.all fun i => Nat.beq (r i) (fives.countP fun j => Nat.blt (r j) (r i))
def okWord (r : Fin 5 → Nat) : Bool := (fun w => fives.all fun i => fives.all fun k => matchL w (97 + i.val) (97 + k.val) == Nat.blt (r i) (r k)) (wordN r)
def chk1 (a : Nat) : Bool := fives.all fun b => fives.all fun c => fives.all fun d => fives.all fun e => !okRank (rankOf a b.val c.val d.val e.val) || okWord (rankOf a b.val c.val d.val e.val)
theorem chk_0 : chk1 0 = true := by decide +kernel
theorem chk_1 : chk1 1 = true := by decide +kernel
theorem chk_2 : chk1 2 = true := by decide +kernel
theorem chk_3 : chk1 3 = true := by decide +kernel
theorem chk_4 : chk1 4 = true := by decide +kernel
theorem fives_all (i : Fin 5) : i ∈ fives := by revert i; decide
theorem fives_fin : fives = List.finRange 5 := by rfl
theorem rank_ok (st : Fin 5 → Int) : okRank (rkN st) = true := by
  unfold okRank
  rw [List.all_eq_true]
  intro i _
  have e : (fun j => Nat.blt (rkN st j) (rkN st i)) = fun j => decide (st j < st i) := by
    funext j
    rw [Bool.eq_iff_iff, decide_eq_true_eq, rkN_lt_iff]
    exact Iff.of_eq Nat.blt_eq
  rw [e, fives_fin]
  exact Nat.beq_refl _
theorem rankOf_eq (r : Fin 5 → Nat) : rankOf (r 0) (r 1) (r 2) (r 3) (r 4) = r := by
  funext i
  match i with
  | ⟨0, _⟩ => rfl
  | ⟨1, _⟩ => rfl
  | ⟨2, _⟩ => rfl
  | ⟨3, _⟩ => rfl
  | ⟨4, _⟩ => rfl
theorem word_ok (r : Fin 5 → Nat) (h5 : ∀ i, r i < 5) (hr : okRank r = true) : okWord r = true := by
  have h : ∀ a : Fin 5, chk1 a.val = true := fun a => match a with
    | ⟨0, _⟩ => chk_0
    | ⟨1, _⟩ => chk_1
    | ⟨2, _⟩ => chk_2
    | ⟨3, _⟩ => chk_3
    | ⟨4, _⟩ => chk_4
  have hc := h ⟨r 0, h5 0⟩
  unfold chk1 at hc
  have h1 := List.all_eq_true.mp hc _ (fives_all ⟨r 1, h5 1⟩)
  have h2 := List.all_eq_true.mp h1 _ (fives_all ⟨r 2, h5 2⟩)
  have h3 := List.all_eq_true.mp h2 _ (fives_all ⟨r 3, h5 3⟩)
  have h4 := List.all_eq_true.mp h3 _ (fives_all ⟨r 4, h5 4⟩)
  dsimp only at h4
  rw [rankOf_eq, hr] at h4
  exact h4
theorem match_word (st : Fin 5 → Int) (i k : Fin 5) : matchF (wordF st) i k = decide (st i < st k) := by
  rw [matchF_eq, wordF_eq]
  have h := word_ok (rkN st) (rkN_5 st) (rank_ok st)
  unfold okWord at h
  have h1 := List.all_eq_true.mp (List.all_eq_true.mp h _ (fives_all i)) _ (fives_all k)
  rw [eq_of_beq h1, Bool.eq_iff_iff, decide_eq_true_eq, rkN_lt_iff]
  exact Iff.of_eq Nat.blt_eq
end
section
open PySem PySem.W PySem.Spec PySem.Calls PyProof.Rows
set_option maxRecDepth 100000
set_option maxHeartbeats 4000000
def muF (L : Fin 5 → Fin 5 → Bool) (c d : Fin 5) : Nat := (List.finRange 5).countP (fun j => L j c) + (List.finRange 5).countP (fun j => L d j)
theorem near_go {L : Fin 5 → Fin 5 → Bool} (irr : ∀ x, L x x = false) (tr : ∀ x y z, L x y = true → L y z = true → L x z = true) (i k : Fin 5) : ∀ (n : Nat) (c d : Fin 5), muF L c d < n → (c = i ∨ L c i = true) → (d = k ∨ L k d = true) → L c d = false →
    ∃ c' d', nearF L c' d' = true ∧ (c' = i ∨ L c' i = true) ∧ (d' = k ∨ L k d' = true)
  | 0, _, _, h, _, _, _ => absurd h (Nat.not_lt_zero _)
  | n + 1, c, d, h, hc, hd, hcd => by
    by_cases hn : nearF L c d = true
    · exact ⟨c, d, hn, hc, hd⟩
    · unfold nearF at hn
      rw [hcd, Bool.not_false, Bool.true_and, decide_eq_true_eq, Classical.not_forall] at hn
      obtain ⟨j, hj⟩ := hn
      rw [Bool.not_eq_false] at hj
      unfold badF at hj
      rw [Bool.or_eq_true, Bool.and_eq_true, Bool.and_eq_true, Bool.not_eq_true', Bool.not_eq_true'] at hj
      rcases hj with ⟨h1, h2⟩ | ⟨h1, h2⟩
      · refine near_go irr tr i k n j d ?_ (.inr ?_) hd h2
        · have : (List.finRange 5).countP (fun x => L x j) < (List.finRange 5).countP (fun x => L x c) :=
            countP_lt _ _ _ (fun x _ hx => tr _ _ _ hx h1) ⟨j, List.mem_finRange j, h1, irr j⟩
          unfold muF at h ⊢
          omega
        · rcases hc with rfl | hc
          · exact h1
          · exact tr _ _ _ h1 hc
      · refine near_go irr tr i k n c j ?_ hc (.inr ?_) h2
        · have : (List.finRange 5).countP (fun x => L j x) < (List.finRange 5).countP (fun x => L d x) :=
            countP_lt _ _ _ (fun x _ hx => tr _ _ _ h1 hx) ⟨j, List.mem_finRange j, h1, irr j⟩
          unfold muF at h ⊢
          omega
        · rcases hd with rfl | hd
          · exact h1
          · exact tr _ _ _ hd h1
theorem near_ex {L V : Fin 5 → Fin 5 → Bool} (irr : ∀ x, L x x = false) (tr : ∀ x y z, L x y = true → L y z = true → L x z = true) (trV : ∀ x y z, V x y = true → V y z = true → V x z = true) (sub : ∀ x y, L x y = true → V x y = true)
    {i k : Fin 5} (hv : V i k = true) (hl : L i k = false) : ∃ c d, V c d = true ∧ nearF L c d = true ∧ (c = i ∨ L c i = true) ∧ (d = k ∨ L k d = true) := by
  obtain ⟨c, d, hn, hc, hd⟩ := near_go irr tr i k _ i k (Nat.lt_succ_self _) (.inl rfl) (.inl rfl) hl
  refine ⟨c, d, ?_, hn, hc, hd⟩
  have h1 : V c k = true := by
    rcases hc with rfl | hc
    · exact hv
    · exact trV _ _ _ (sub _ _ hc) hv
  rcases hd with rfl | hd
  · exact h1
  · exact trV _ _ _ h1 (sub _ _ hd)
theorem below_iff {a b zs : List Int} : belowF a b zs = true ↔ ∀ z ∈ zs, a.getD (z - 1).toNat 0 < b.getD (z - 1).toNat 0 := by
  unfold belowF
  rw [List.all_eq_true]
  exact ⟨fun h z hz => of_decide_eq_true (h z hz), fun h z hz => decide_eq_true (h z hz)⟩
theorem below_irr {a zs : List Int} (h : zs ≠ []) : belowF a a zs = false := by
  rw [Bool.eq_false_iff]
  intro hb
  cases zs with
  | nil => exact h rfl
  | cons z r => have := below_iff.mp hb z List.mem_cons_self; omega
theorem below_tr {a b c zs : List Int} (h : belowF a b zs = true) (h' : belowF b c zs = true) : belowF a c zs = true :=
  below_iff.mpr fun z hz => Int.lt_trans (below_iff.mp h z hz) (below_iff.mp h' z hz)
theorem below_sub {a b zs ys : List Int} (hs : ∀ z ∈ ys, z ∈ zs) (h : belowF a b zs = true) : belowF a b ys = true := below_iff.mpr fun z hz => below_iff.mp h z (hs z hz)
theorem level_at (q : Fin 31) {z : Int} (h : z ∈ ([1, 2, 3, 4, 5] : List Int)) : levelF (wsF (rowR q)) z = (colsF (leadR q)).getD (z - 1).toNat 0 := by
  simp only [List.mem_cons, List.not_mem_nil, or_false] at h
  rcases h with rfl | rfl | rfl | rfl | rfl
  · exact level_fin q 0
  · exact level_fin q 1
  · exact level_fin q 2
  · exact level_fin q 3
  · exact level_fin q 4
/-- what is seen is what lies below at the sizes drawn -/
theorem seen_below (ws : Fin 5 → WS) (cs : Fin 5 → List Int) (zs : List Int) (hz : zs ≠ []) (hl : ∀ i, ∀ z ∈ zs, levelF (ws i) z = (cs i).getD (z - 1).toNat 0) (i k : Fin 5) :
    seenF (zs.map fun z => wordF fun i => levelF (ws i) z) i k = belowF (cs i) (cs k) zs := by
  unfold seenF
  by_cases e : i = k
  · subst e
    rw [if_pos rfl, below_irr hz]
  · rw [if_neg e, List.all_map]
    unfold belowF
    rw [Bool.eq_iff_iff, List.all_eq_true, List.all_eq_true]
    have h : ∀ z ∈ zs, ((fun x => matchF x i k) ∘ fun z => wordF fun i => levelF (ws i) z) z = decide ((cs i).getD (z - 1).toNat 0 < (cs k).getD (z - 1).toNat 0) := fun z hz' => by
      show matchF (wordF fun i => levelF (ws i) z) i k = _
      rw [match_word, hl i z hz', hl k z hz']
    exact ⟨fun q z hz' => (h z hz') ▸ q z hz', fun q z hz' => (h z hz').symm ▸ q z hz'⟩
end
section
open PySem PySem.W PySem.Spec PySem.Calls PyProof.Rows
set_option maxRecDepth 100000
set_option maxHeartbeats 1000000
/-- a comprehension's entry: whatever its clauses -/
theorem comp_core {prog : Program} {w : World} {A : Around} {s : Shared} {env : Env} {oscope : Scope} {ocells : List (Str × Addr)} {elt target iter : Expr} {ifs : List Expr} {rest : List Comprehension} {scope : Scope} {pos : Pos} {RR : Value → Addr → Result → Shared → Prop} {h₁ : Heap} {t₁ : Nat} {xv : Value} {n : Nat} {P : Nat → Value → Prop}
    {E : Value → Shared → Prop} {o : Obj} {J : Nat → Heap → Prop} {fp : List Addr} (xs : List Str) (e : EnvIs env oscope ocells) (hc : okComp scope = true) (hxs : xs.all (fun x => scope.names.lookup x == some .local && x != ("__debug__" : Str)) = true) (hnd : xs.Nodup) (hcell : ∀ y ∈ scope.names, y.2 ≠ .cell) (cl : List (Str × Addr))
    (hit : ∀ (Q : Value → Shared → Prop) (E : Value → Shared → Prop) (s : Shared) (t : Nat), Q (.ref h₁.objs.size) (sh s (h₁.push o) t) → wpAny (model prog w) A (pyIter xv) Q E (sh s h₁ t))
    (W : Walks prog w A h₁.objs.size (h₁.objs.size :: fp) [h₁.objs.size] n P J) (hJ : J 0 (h₁.push o)) (hfp : ∀ b ∈ fp, ∃ o, h₁.get? b = some o)
    (hloop : ∀ cenv D h t, EnvIs cenv scope cl → St h₁ cenv h (xs.map fun x => (x, none)) [(D, listObj [] 0)] → J 0 h → Off h₁ cenv [(D, listObj [] 0)] h₁.objs.size (h₁.objs.size :: fp) →
      codeAny (model prog w) A (.compLoop (.ListComp elt (⟨target, iter, ifs, 0⟩ :: rest) scope pos) 0 (.ref h₁.objs.size) (.ref D) cenv) (RR (.ref D) cenv.locals) (sh s h t)) :
    wpAny (model prog w) A (pyIter xv) (fun it s₂ => wpAny (model prog w) A (newList []) (fun acc s₃ => wpAny (model prog w) A (newFunctionEnv scope env.globals cl [] env.qual none .none (some env)) (fun cenv s₄ =>
      codeAny (model prog w) A (.compStart (.ListComp elt (⟨target, iter, ifs, 0⟩ :: rest) scope pos) 0 it acc { cenv with scope := relabel scope env }) (RR acc cenv.locals) s₄) E s₃) E s₂) E (sh s h₁ t₁) := by
  simp only [okComp, Bool.and_eq_true, beq_iff_eq, List.all_eq_true, Bool.or_eq_true, bne_iff_ne, ne_eq] at hc hxs
  refine hit _ _ _ _ ?_
  refine wpAny_newObj_type (q_newEnv ?_)
  have hcf : ∀ (names : List (Str × NameKind)), (∀ y ∈ names, y.2 ≠ .cell) → (∀ n acc, cellsFrom n names acc = acc) ∧ ∀ h, pushCells h names = h := by
    intro names
    induction names with
    | nil => exact fun _ => ⟨fun _ _ => rfl, fun _ => rfl⟩
    | cons y r ih =>
      intro hy
      obtain ⟨nm, kd⟩ := y
      have hk : (kd == NameKind.cell) = false := by simpa using hy _ List.mem_cons_self
      have ih' := ih fun z hz => hy z (List.mem_cons_of_mem _ hz)
      refine ⟨fun n acc => ?_, fun h => ?_⟩
      · unfold cellsFrom; rw [hk]; exact ih'.1 n acc
      · unfold pushCells; rw [hk]; exact ih'.2 h
  dsimp only
  rw [(hcf _ hcell).1, (hcf _ hcell).2]
  generalize hHA : h₁.push o = HA
  generalize hHB : HA.push { cls := .type "list", data := .seq ([] : List Value).toArray } = HB
  have szA : HA.objs.size = h₁.objs.size + 1 := by rw [← hHA, Heap.size_push]
  have szB : HB.objs.size = HA.objs.size + 1 := by rw [← hHB, Heap.size_push]
  have kA : Keep h₁ HA := hHA ▸ Keep.push h₁ o
  have kB : Keep HA HB := hHB ▸ Keep.push HA _
  have kC := Keep.push HB { cls := .type "dict", data := .dict #[] }
  have gD : HB.get? HA.objs.size = some (listObj [] 0) := hHB ▸ Heap.get?_push_size HA rfl
  have C0 := cenv_is (scope := scope) (cells := cl) (C := HB.objs.size) (b := builtinsNs) e
  generalize hce : ({ (newEnv scope HB.objs.size env.globals cl env.qual none .none (some env) builtinsNs) with scope := relabel scope env } : Env) = cenv at C0
  have hcl : cenv.locals = HB.objs.size := by rw [← hce]; rfl
  have S0 : St h₁ cenv (HB.push { cls := .type "dict", data := .dict #[] }) (xs.map fun x => (x, none)) [(HA.objs.size, listObj [] 0)] := by
    refine ⟨?_, ⟨fun _ => none, by rw [hcl]; exact Heap.Ns.new HB (.type "dict"), ?_⟩, ?_, ?_, (kA.trans kB).trans kC, ?_, ?_, ?_⟩
    · rw [← hce]; exact hc.1
    · intro p hp; obtain ⟨x, _, rfl⟩ := List.mem_map.mp hp; rfl
    · rw [List.map_map]
      have : ((fun x : Str × Option Value => x.1) ∘ fun x => (x, none)) = id := rfl
      rw [this, List.map_id]; exact hnd
    · intro p hp; obtain ⟨x, hx, rfl⟩ := List.mem_map.mp hp
      exact ⟨C0.kd _ _ (hxs x hx).1 (by decide), by have := (hxs x hx).2; simpa using this⟩
    · rw [hcl]; exact none_of_ge (by omega)
    · intro p hp; rw [List.mem_singleton] at hp; subst hp
      exact ⟨kC _ _ gD, none_of_ge (by omega)⟩
    · rw [hcl]
      refine List.nodup_cons.mpr ⟨fun hm => ?_, List.nodup_cons.mpr ⟨fun hm => (nomatch hm), List.nodup_nil⟩⟩
      have : HB.objs.size = HA.objs.size := List.mem_singleton.mp hm
      omega
  have Off0 : Off h₁ cenv [(HA.objs.size, listObj [] 0)] h₁.objs.size (h₁.objs.size :: fp) := by
    have lt : ∀ b : Nat, b ∈ h₁.objs.size :: fp → b < HA.objs.size := fun b hb => by
      rcases List.mem_cons.mp hb with rfl | hb
      · omega
      · obtain ⟨ob, hob⟩ := hfp b hb; have : (b : Nat) < h₁.objs.size := Heap.lt_size hob; omega
    refine ⟨none_of_ge (Nat.le_refl _), List.mem_cons_self, fun b hb z => ?_, fun b hb hm => ?_⟩
    · have := lt b hb; rw [z, hcl] at this; omega
    · have h2 : (b : Nat) = HA.objs.size := List.mem_singleton.mp hm
      have : (b : Nat) < HA.objs.size := lt b hb
      rw [h2] at this; exact Nat.lt_irrefl _ this
  have hJ0 : J 0 (HB.push { cls := .type "dict", data := .dict #[] }) := W.frame _ _ _ (hHA ▸ hJ) fun b _ ob eb => kC _ _ (kB _ _ eb)
  have loop : ∀ t', codeAny (model prog w) A (.compLoop (.ListComp elt (⟨target, iter, ifs, 0⟩ :: rest) scope pos) 0 (.ref h₁.objs.size) (.ref HA.objs.size) cenv) (RR (.ref HA.objs.size) HB.objs.size)
      (sh s (HB.push { cls := .type "dict", data := .dict #[] }) t') := by
    intro t'
    have := hloop cenv HA.objs.size _ t' C0 S0 hJ0 Off0
    rw [hcl] at this
    exact this
  show codeAny (model prog w) A (.compStart _ 0 (.ref h₁.objs.size) (.ref HA.objs.size) cenv) (RR (.ref HA.objs.size) HB.objs.size) (sh s (HB.push { cls := .type "dict", data := .dict #[] }) t₁)
  exact codeAny_compStart_list (loop _) (W.self 0 _ _ _ hJ0 (loop _))
/-- the second clause's start -/
theorem start_in {prog : Program} {w : World} {A : Around} {R : Result → Shared → Prop} {s : Shared} {elt : Expr} {g1 g2 : Comprehension} {scope : Scope} {pos : Pos} {it acc : Value} {env : Env} (ha : (g2.is_async != 0) = false)
    (h0 : codeAny (model prog w) A (.compLoop (.ListComp elt [g1, g2] scope pos) 1 it acc env) R s)
    (h : wpAny (model prog w) A (pyIter it) (fun it' s' => codeAny (model prog w) A (.compLoop (.ListComp elt [g1, g2] scope pos) 1 it' acc env) R s')
      (notedBy (model prog w) A env fun x s' => R (.error x) s') s) :
    codeAny (model prog w) A (.compStart (.ListComp elt [g1, g2] scope pos) 1 it acc env) R s := by
  have hsync : ((clausesOf (.ListComp elt [g1, g2] scope pos))[1]?).elim false (·.is_async != 0) = false := ha
  have tree : wpAny (model prog w) (A.under (.compStart (.ListComp elt [g1, g2] scope pos) 1 it acc env)) (compStart (.ListComp elt [g1, g2] scope pos) 1 it acc env)
      (fun fin s' => match fin with
        | .done f => R (.ok f) s'
        | .again c' => c'.quiet = true ∧ codeAny (model prog w) A c' R s') (notedBy (model prog w) A env fun x s' => R (.error x) s') s := by
    unfold compStart
    rw [hsync, if_neg Bool.false_ne_true]
    refine wpAny_bind (wpAny_askSetting (wpAny_ite ?_))
    cases hq : ({ program := (model prog w).prog, params := (model prog w).w.params } : Setting).params.followText "comprehension-iter-twice" with
    | true => exact wpAny_pure ⟨rfl, h0⟩
    | false => exact wpAny_bind (wpAny_rule (wpAny_bind (wpAny_standAt (wpAny_bind (wpAny_mono h (fun _ _ z => wpAny_pure ⟨rfl, z⟩) fun _ _ z => z)))))
  exact codeAny_of_tree (wpAny_notedAt tree)
end
section
open PySem PySem.W PySem.Spec PySem.Calls PyProof.Rows
set_option maxRecDepth 100000
set_option maxHeartbeats 1000000
theorem Turn.last (a : Addr) (o o' : Obj) : ∀ l : Led, Turn (l ++ [(a, o)]) a o' (l ++ [(a, o')])
  | [] => Turn.here
  | _ :: l => Turn.there (Turn.last a o o' l)
structure Pr where
  a : Addr
  i : Fin 5
  k : Fin 5
  u : Tok
  v : Tok
abbrev Pr.obj (p : Pr) : Obj := tupObj [.int (p.i.val : Int) p.u, .int (p.k.val : Int) p.v]
abbrev prLed (ts : List Pr) : Led := ts.map fun p => (p.a, p.obj)
abbrev prRefs (ts : List Pr) : List Value := (ts.map fun p => Value.ref p.a).reverse
abbrev prAll (D : Addr) (ts : List Pr) (ep : Nat) : Led := prLed ts ++ [(D, listObj (prRefs ts) ep)]
theorem prRefs_cons (p : Pr) (ts : List Pr) : prRefs (p :: ts) = prRefs ts ++ [.ref p.a] := by unfold prRefs; rw [List.map_cons, List.reverse_cons]
section
variable {prog : Program} {w : World} {A : Around} {E : Value → Shared → Prop} {s : Shared} {h h₀ h₁ h' : Heap} {t t' : Nat} {env : Env} {fr fr' : Locals} {nw : Led}
theorem as_post {y : Str} {py : Pos} {D C : Addr} {m : Str → Option Value} {Q : Flow → Shared → Prop} (S : St h₀ env h₁ fr nw) (hp : Put fr y (.ref D) fr') (hn : h'.Ns C m) (hC : h₁.get? C = none) (k : Keep h₁ h')
    (kk : ∀ h'' t'', St h₀ env h'' fr' nw → (∀ b o, b ≠ env.locals → b ≠ C → h'.get? b = some o → h''.get? b = some o) → Q .next (sh s h'' t'')) :
    compPost (model prog w) A E (some (assign (.Name y py) env)) (fun _ s' => Q .next s') (.ref D) C (.ok .next) (sh s h' t') := by
  show wpAny _ A (assign (.Name y py) env (.ref D)) _ _ _
  have S' := S.keeps k
  obtain ⟨oL, hL⟩ := S.nsAt
  have hLC : env.locals ≠ C := fun z => by rw [z, hC] at hL; cases hL
  obtain ⟨m₂, hn₂, hm₂⟩ := S'.ns
  obtain ⟨u, hu⟩ := hp.old
  refine wpAny_assign_Name (wpAny_storeName_local (S'.kd _ hu).1 hn₂ (fun h₂ hn' hs' => ?_) (by rw [S'.fn]; rfl))
  have S₂ := S'.store hp hm₂ hn' hs'
  refine ⟨m, hn.sameBut hs' (Ne.symm hLC), fun h₃ hs₃ => ?_⟩
  have nC : ∀ p ∈ nw, p.1 ≠ C := fun p hpn z => by have := (S.new p hpn).1; rw [z, hC] at this; cases this
  have hC0 : h₀.get? C = none := by
    cases q : h₀.get? C with
    | none => rfl
    | some o => rw [S.keep _ _ q] at hC; cases hC
  have S₃ := S₂.other (h' := h₃) hC0 (Ne.symm hLC) (fun hm => by obtain ⟨p, hpn, z⟩ := List.mem_map.mp hm; exact nC p hpn z) fun b o hb eb => hs₃.extBut b o hb eb
  exact kk h₃ _ S₃ fun b o h1 h2 eb => hs₃.extBut b o h2 (hs'.extBut b o h1 eb)
/-- a list of pairs -/
def Pairs (h : Heap) (D : Addr) (b : Fin 5 → Fin 5 → Bool) : Prop := ∃ ts : List Pr, ts.length ≤ 25 ∧ h.IsList D (prRefs ts).toArray ∧ (∀ p ∈ ts, h.get? p.a = some p.obj) ∧ ∀ i k, b i k = true → ∃ p ∈ ts, p.i = i ∧ p.k = k
theorem Pairs.keeps {D : Addr} {b : Fin 5 → Fin 5 → Bool} (x : Pairs h D b) (k : Keep h h') : Pairs h' D b := let ⟨ts, l, d, p, q⟩ := x; ⟨ts, l, lk d k, fun r hr => k _ _ (p r hr), q⟩
def prIn (b : Fin 5 → Fin 5 → Bool) (ts : List Pr) (i k : Nat) : Prop := ∀ c d : Fin 5, b c d = true → (c.val < i ∨ (c.val = i ∧ d.val < k)) → ∃ p ∈ ts, p.i = c ∧ p.k = d
theorem q_wrong {oscope scope : Scope} {ocells : List (Str × Addr)} {y : Str} {test : Expr} {py q1 q2 q3 p1 p2 p3 p4 p5 p6 p7 p8 pos spos : Pos} {k0 k1 k2 : Nat} {Q : Flow → Shared → Prop} (b : Fin 5 → Fin 5 → Bool) (cl : List (Str × Addr)) (fr' : Addr → Locals)
    (hA : A.handled = none) (S : St h₀ env h fr nw) (e : EnvIs env oscope ocells) (G : Gl w h)
    (hsw : swapsWith (.ListComp (.Tuple [.Name (Str.ofString "i") q1, .Name (Str.ofString "k") q2] k0 q3) [⟨.Name (Str.ofString "i") p1, .Call (.Name (Str.ofString "range") p2) [.Constant (.int 5) k1 p3] [] p4, [], 0⟩, ⟨.Name (Str.ofString "k") p5, .Call (.Name (Str.ofString "range") p6) [.Constant (.int 5) k2 p7] [] p8, [test], 0⟩] scope pos) (some (.Name y py)) spos.line env = pure true)
    (hr : oscope.names.lookup (Str.ofString "range") = some NameKind.globalImplicit) (hr' : scope.names.lookup (Str.ofString "range") = some NameKind.globalImplicit)
    (hc : okComp scope = true) (hxs : [Str.ofString "i", Str.ofString "k"].all (fun x => scope.names.lookup x == some .local && x != ("__debug__" : Str)) = true) (hcell : ∀ y ∈ scope.names, y.2 ≠ .cell)
    (hcl : closed ocells scope.names = true) (hcl' : closeOver ocells scope.names [] = cl) (hp : ∀ D, Put fr y (.ref D) (fr' D))
    (htest : ∀ (i k : Fin 5) b₁ h' cenv t' ui uk nw', EnvIs cenv scope cl → Keep h b₁ → St b₁ cenv h' [(Str.ofString "i", some (.int (i.val : Int) ui)), (Str.ofString "k", some (.int (k.val : Int) uk))] nw' →
      wpAny (model prog w) A (isTrue test cenv (eval test cenv)) (fun v s' => ∃ h'' t'', v = b i k ∧ s' = sh s h'' t'' ∧ Keep h' h'') (fun _ _ => False) (sh s h' t'))
    (hend : ∀ D h' t' bb, Keep h₀ bb → St bb env h' (fr' D) nw → Pairs bb D b → Q .next (sh s h' t')) :
    wpAny (model prog w) A (exec (.Assign [.Name y py] (.ListComp (.Tuple [.Name (Str.ofString "i") q1, .Name (Str.ofString "k") q2] k0 q3) [⟨.Name (Str.ofString "i") p1, .Call (.Name (Str.ofString "range") p2) [.Constant (.int 5) k1 p3] [] p4, [], 0⟩, ⟨.Name (Str.ofString "k") p5, .Call (.Name (Str.ofString "range") p6) [.Constant (.int 5) k2 p7] [] p8, [test], 0⟩] scope pos) spos) env) Q E (sh s h t) := by
  have hc' := hc
  simp only [okComp, Bool.and_eq_true, beq_iff_eq, List.all_eq_true, Bool.or_eq_true, bne_iff_ne, ne_eq] at hc'
  rw [exec_Assign_Name_used _ _ _ _ hsw]
  refine wpAny_bind (wpAny_standAt (wpAny_bind ?_))
  show wpAny _ A (do let _ ← comprehension (.ListComp (.Tuple [.Name (Str.ofString "i") q1, .Name (Str.ofString "k") q2] k0 q3) [⟨.Name (Str.ofString "i") p1, .Call (.Name (Str.ofString "range") p2) [.Constant (.int 5) k1 p3] [] p4, [], 0⟩, ⟨.Name (Str.ofString "k") p5, .Call (.Name (Str.ofString "range") p6) [.Constant (.int 5) k2 p7] [] p8, [test], 0⟩] scope pos) scope env _ (newList []) false (eval (.Call (.Name (Str.ofString "range") p2) [.Constant (.int 5) k1 p3] [] p4) env) (some (assign (.Name y py) env))) _ _ (sh s h t)
  have hclo : closureFor scope env = pure cl := by rw [closureFor_eq (by rw [e.ce]; exact hcl), e.ce, hcl']
  refine wpAny_bind (wpAny_mono (wpAny_comprehension_free (use := some (assign (.Name y py) env)) (Q := fun _ s' => Q .next s') rfl (fun _ => rfl) hclo hc'.1 (fun y hy hl => (hc'.2 y hy).resolve_left fun q => q hl) ?_) (fun _ s' hq => wpAny_pure (wpAny_pure hq)) fun _ _ e => e)
  refine wpAny_Call_NameR (q_range G S e (PyProof.Rows.callWith_type1 (args_cons (q_cint fun _ _ => args_nil (q_crange1 fun r h₂ t₂ a' b' c' k₂ _ hr₂ => ?_)))) hr)
  have S₂ := S.keeps k₂
  obtain ⟨o, J, fp, hof, hit, W, hL, hJ, hfp⟩ := Src.range (prog := prog) (w := w) (A := A) 5 hA hr₂ (by decide) (by decide)
  refine comp_core (RR := fun acc C => compPost (model prog w) A E (some (assign (.Name y py) env)) (fun _ s' => Q .next s') acc C) [Str.ofString "i", Str.ofString "k"] e hc hxs (by decide +kernel) hcell cl hit W hJ hfp ?_
  intro cenv D h₃ t₃ C0 S0 hJ0 Off0
  refine q_cloop (p := pos) turn_out W hL S0 hJ0 Off0 (fun i fr nw => ∃ xi xk ep ts, fr = [(Str.ofString "i", xi), (Str.ofString "k", xk)] ∧ nw = prAll D ts ep ∧ ts.length ≤ 5 * i ∧ prIn b ts i 0) ⟨none, none, 0, [], rfl, rfl, Nat.zero_le _, fun c d _ hcd => by omega⟩ ?_ ?_ (fun _ _ _ _ _ _ _ z => wpAny_of_eq rfl z)
  · rintro i v b₁ h₄ _ _ t₄ hi ⟨ui, rfl⟩ ⟨xi, xk, ep, ts, rfl, rfl, hlen, hin⟩ k₄ S₄ K hK
    have e0 : (0 : Int) + (i : Int) = (((⟨i, hi⟩ : Fin 5).val : Nat) : Int) := by show 0 + (i : Int) = (i : Int); omega
    rw [e0]
    refine wpAny_assign_Name (q_st S₄ (by walk_at "put") fun h₅ t₅ S₅ => ?_)
    have G₅ := G.keeps ((k₂.trans k₄).trans S₅.keep)
    refine wpAny_Call_NameR (q_range G₅ S₅ C0 (PyProof.Rows.callWith_type1 (args_cons (q_cint fun _ _ => args_nil (q_crange1 fun r h₆ t₆ a' b' c' k₆ _ hr₆ => ?_)))) hr')
    refine wpAny_pure ?_
    refine wpAny_pyIter_range hr₆ (by decide) ?_
    have S₆ := S₅.keeps k₆
    have S₇ := S₆.keeps (Keep.push h₆ { cls := .type "range_iterator", data := .fields #[rawInt 0, rawInt (Builtin.Range.rangeSize 0 5 1), rawInt 1] })
    have W2 := Walks.range (prog := prog) (w := w) hA h₆.objs.size 0 1 5
    have hJ2 : IsRangeIter (h₆.push { cls := .type "range_iterator", data := .fields #[rawInt 0, rawInt (Builtin.Range.rangeSize 0 5 1), rawInt 1] }) h₆.objs.size (0 + ((0 : Nat) : Int) * 1) (((5 - 0 : Nat) : Nat) : Int) 1 := by
      have := Heap.get?_push_size h₆ (o := { cls := .type "range_iterator", data := .fields #[rawInt 0, rawInt (Builtin.Range.rangeSize 0 5 1), rawInt 1] }) rfl
      unfold IsRangeIter
      exact this
    have go : codeAny (model prog w) A (.compLoop (.ListComp (.Tuple [.Name (Str.ofString "i") q1, .Name (Str.ofString "k") q2] k0 q3) [⟨.Name (Str.ofString "i") p1, .Call (.Name (Str.ofString "range") p2) [.Constant (.int 5) k1 p3] [] p4, [], 0⟩, ⟨.Name (Str.ofString "k") p5, .Call (.Name (Str.ofString "range") p6) [.Constant (.int 5) k2 p7] [] p8, [test], 0⟩] scope pos) 1 (.ref h₆.objs.size) (.ref D) cenv)
        (fun r s' => match r with
          | .ok _ => K s'
          | .error x => cameBackBy (model prog w) A cenv (fun _ _ => False) x s') (sh s (h₆.push { cls := .type "range_iterator", data := .fields #[rawInt 0, rawInt (Builtin.Range.rangeSize 0 5 1), rawInt 1] }) t₆) := by
      refine q_cloop (p := pos) turn_in W2 ?_ S₇ hJ2 S₆.newOff (fun k fr nw => ∃ xk ep ts, fr = [(Str.ofString "i", some (.int (((⟨i, hi⟩ : Fin 5).val : Nat) : Int) ui)), (Str.ofString "k", xk)] ∧ nw = prAll D ts ep ∧ ts.length ≤ 5 * i + k ∧ prIn b ts i k) ⟨xk, ep, ts, rfl, rfl, hlen, hin⟩ ?_ ?_ (fun _ _ _ _ _ _ _ z => wpAny_of_eq rfl z)
      · intro i h' hJ b hb
        rw [List.mem_singleton] at hb
        subst hb
        exact ⟨_, hJ⟩
      · rintro k v b₈ h₈ _ _ t₈ hk ⟨uk, rfl⟩ ⟨xk, ep, ts, rfl, rfl, hlen, hin⟩ k₈ S₈ K2 hK2
        have e0 : (0 : Int) + (k : Int) * 1 = (((⟨k, hk⟩ : Fin 5).val : Nat) : Int) := by show 0 + (k : Int) * 1 = (k : Int); omega
        rw [e0]
        refine wpAny_assign_Name (q_st S₈ (by walk_at "put") fun h₉ t₉ S₉ => ?_)
        refine wpAny_mono (htest ⟨i, hi⟩ ⟨k, hk⟩ b₈ h₉ cenv t₉ ui uk _ C0 ((k₂.trans k₄).trans k₈) S₉) (fun ok s₁₀ hok => ?_) fun _ _ z => z.elim
        obtain ⟨h₁₀, t₁₀, rfl, rfl, k₁₀⟩ := hok
        have S₁₀ := S₉.keeps k₁₀
        refine ⟨fun hb => ?_, fun hb => ?_⟩
        · refine Tuple_ (args_cons (q_ld S₁₀ (by walk_at "has") (args_cons (q_ld S₁₀ (by walk_at "has") (args_nil (q_newTuple S₁₀ (by have := sizeLine_big; simp; omega) fun T h₁₁ S₁₁ _ _ => ?_))))))
          have S₁₂ : St b₈ cenv h₁₁ [(Str.ofString "i", some (.int (((⟨i, hi⟩ : Fin 5).val : Nat) : Int) ui)), (Str.ofString "k", some (.int (((⟨k, hk⟩ : Fin 5).val : Nat) : Int) uk))] (prLed (⟨T, ⟨i, hi⟩, ⟨k, hk⟩, ui, uk⟩ :: ts) ++ [(D, listObj (prRefs ts) ep)]) := S₁₁
          refine q_append (l := D) (vs := prRefs ts) (ep := ep) S₁₂ (List.mem_append_right _ List.mem_cons_self) (by have := sizeLine_big; simp; omega) (fun ep' => Turn.last D _ (listObj (prRefs ts ++ [.ref T]) ep') _) fun ep' h₁₃ S₁₃ => ?_
          refine hK2 h₁₃ _ _ _ S₁₃ ⟨_, ep', ⟨T, ⟨i, hi⟩, ⟨k, hk⟩, ui, uk⟩ :: ts, rfl, by rw [prAll, prRefs_cons], by rw [List.length_cons]; omega, fun c d hcd hlt => ?_⟩
          by_cases q : c.val = i ∧ d.val = k
          · exact ⟨_, List.mem_cons_self, Fin.ext q.1.symm, Fin.ext q.2.symm⟩
          · obtain ⟨p, hp, hpq⟩ := hin c d hcd (by omega)
            exact ⟨p, List.mem_cons_of_mem _ hp, hpq⟩
        · refine hK2 h₁₀ _ _ _ S₁₀ ⟨_, ep, ts, rfl, rfl, by omega, fun c d hcd hlt => ?_⟩
          by_cases q : c.val = i ∧ d.val = k
          · have h1 : c = ⟨i, hi⟩ := Fin.ext q.1
            have h2 : d = ⟨k, hk⟩ := Fin.ext q.2
            rw [h1, h2, hb] at hcd; cases hcd
          · exact hin c d hcd (by omega)
      · rintro h₈ _ _ t₈ ⟨xk, ep, ts, rfl, rfl, hlen, hin⟩ S₈
        exact hK h₈ _ _ t₈ S₈ ⟨_, xk, ep, ts, rfl, rfl, by omega, fun c d hcd hlt => hin c d hcd (by have := d.isLt; omega)⟩
    refine wpAny_runOwn ?_
    rw [Around.mark_none]
    exact start_in rfl go (W2.self 0 _ _ _ hJ2 go)
  · rintro h₄ _ _ t₄ ⟨xi, xk, ep, ts, rfl, rfl, hlen, hin⟩ S₄
    obtain ⟨m, hn, _⟩ := S₄.ns
    refine as_post S₂ (hp D) hn S₄.apart S₄.keep fun h₅ t₅ S₅ hk₅ => ?_
    have kp : ∀ a ob, (a, ob) ∈ prAll D ts ep → h₅.get? a = some ob ∧ h₂.get? a = none := fun a ob hm => by
      have q := S₄.new _ hm
      refine ⟨hk₅ a ob (fun z => ?_) (S₄.ne hm) q.1, q.2⟩
      obtain ⟨oL, hL⟩ := S₂.nsAt
      have := q.2
      dsimp only at this
      rw [z, hL] at this; cases this
    have nl : ∀ a ob, (a, ob) ∈ prAll D ts ep → a ≠ env.locals ∧ a ∉ nw.map (·.1) := fun a ob hm => by
      have q := (kp a ob hm).2
      refine ⟨fun z => ?_, fun z => ?_⟩
      · obtain ⟨oL, hL⟩ := S₂.nsAt
        rw [z, hL] at q; cases q
      · obtain ⟨p, hp, z⟩ := List.mem_map.mp z
        rw [← z, (S₂.new p hp).1] at q; cases q
    obtain ⟨bb, kb, _, S₆, hb⟩ := S₅.rebase
    refine hend D h₅ t₅ bb kb S₆ ⟨ts, by omega, ?_, fun p hp => ?_, fun c d hcd => hin c d hcd (.inl c.isLt)⟩
    · have hm : (D, listObj (prRefs ts) ep) ∈ prAll D ts ep := List.mem_append_right _ List.mem_cons_self
      exact isList_of (hb _ _ (kp _ _ hm).1 (nl _ _ hm).1 (nl _ _ hm).2)
    · have hm : (p.a, p.obj) ∈ prAll D ts ep := List.mem_append_left _ (List.mem_map_of_mem hp)
      exact hb _ _ (kp _ _ hm).1 (nl _ _ hm).1 (nl _ _ hm).2
end
end
section
open PySem PySem.W PySem.Spec PySem.Calls PyProof.Rows
set_option maxRecDepth 100000
set_option maxHeartbeats 1000000
section
variable {prog : Program} {w : World} {A : Around} {E : Value → Shared → Prop} {s : Shared} {h h₀ : Heap} {t : Nat} {env : Env} {fr : Locals} {nw : Led}
theorem q_one {oscope scope : Scope} {ocells : List (Str × Addr)} {iter test : Expr} {p0 p1 p2 p3 pos : Pos} {k0 k1 : Nat} {Q : Value → Shared → Prop} {V : Addr} (b g : Fin 5 → Fin 5 → Bool) (cl : List (Str × Addr))
    (hA : A.handled = none) (S : St h₀ env h fr nw) (e : EnvIs env oscope ocells) (hV : Pairs h V b)
    (hc : okComp scope = true) (hxs : [Str.ofString "c", Str.ofString "d"].all (fun x => scope.names.lookup x == some .local && x != ("__debug__" : Str)) = true) (hcell : ∀ y ∈ scope.names, y.2 ≠ .cell)
    (hcl : closed ocells scope.names = true) (hcl' : closeOver ocells scope.names [] = cl)
    (hit : ∀ Q : Value → Shared → Prop, Q (.ref V) (sh s h t) → wpAny (model prog w) A (eval iter env) Q E (sh s h t))
    (htest : ∀ (c d : Fin 5) b₁ h' cenv t' uc ud nw', EnvIs cenv scope cl → Keep h b₁ → St b₁ cenv h' [(Str.ofString "c", some (.int (c.val : Int) uc)), (Str.ofString "d", some (.int (d.val : Int) ud))] nw' →
      wpAny (model prog w) A (isTrue test cenv (eval test cenv)) (fun v s' => ∃ h'' t'', v = g c d ∧ s' = sh s h'' t'' ∧ Keep h' h'') (fun _ _ => False) (sh s h' t'))
    (kk : ∀ D h' t' vs ep, Keep h h' → h'.get? D = some (listObj vs ep) → vs.length ≤ 25 → ((∃ c d, b c d = true ∧ g c d = true) → vs ≠ []) → Q (.ref D) (sh s h' t'))
    (hs : ∀ x, foldedSetIterable iter env x = pure x := by intro _; rfl) :
    wpAny (model prog w) A (eval (.ListComp (.Constant (.int 1) k0 p0) [⟨.Tuple [.Name (Str.ofString "c") p1, .Name (Str.ofString "d") p2] k1 p3, iter, [test], 0⟩] scope pos) env) Q E (sh s h t) := by
  have hc' := hc
  simp only [okComp, Bool.and_eq_true, beq_iff_eq, List.all_eq_true, Bool.or_eq_true, bne_iff_ne, ne_eq] at hc'
  rw [eval_ListComp]
  have hclo : closureFor scope env = pure cl := by rw [closureFor_eq (by rw [e.ce]; exact hcl), e.ce, hcl']
  refine wpAny_comprehension_free (use := none) rfl hs hclo hc'.1 (fun y hy hl => (hc'.2 y hy).resolve_left fun q => q hl) (hit _ ?_)
  obtain ⟨ts, hts, hlV, htup, hall⟩ := hV
  have lne : V ≠ h.objs.size := by obtain ⟨o, ho, _⟩ := hlV; exact Nat.ne_of_lt (Heap.lt_size ho)
  have W := Walks.list (prog := prog) (w := w) hA h.objs.size V lne (prRefs ts).toArray
  have at' : ∀ (j : Nat) (v : Value), (prRefs ts).toArray[j]? = some v → ∃ p, ts.reverse[j]? = some p ∧ p ∈ ts ∧ v = .ref p.a := fun j v hv => by
    have h1 : (prRefs ts)[j]? = some v := by simpa using hv
    unfold prRefs at h1
    rw [← List.map_reverse, List.getElem?_map] at h1
    cases hj : ts.reverse[j]? with
    | none => rw [hj] at h1; cases h1
    | some p =>
      rw [hj] at h1
      exact ⟨p, rfl, List.mem_reverse.mp (List.mem_of_getElem? hj), (Option.some.inj h1).symm⟩
  have hlen : (prRefs ts).toArray.size = ts.length := by simp
  refine comp_core (RR := fun acc C => compPost (model prog w) A E none Q acc C) [Str.ofString "c", Str.ofString "d"] e hc hxs (by decide +kernel) hcell cl (fun Q E s t k => wpAny_pyIter_list hlV k) W ⟨⟨_, Heap.get?_push_size _ rfl, rfl, rfl⟩, hlV.push _⟩ (fun b hb => ?_) ?_
  · rw [List.mem_singleton] at hb
    subst hb
    exact ⟨_, hlV.choose_spec.1⟩
  intro cenv D h₃ t₃ C0 S0 hJ0 Off0
  refine q_cloop (p := pos) turn_one W ?_ S0 hJ0 Off0 (fun i fr nw => ∃ xc xd ep vs, fr = [(Str.ofString "c", xc), (Str.ofString "d", xd)] ∧ nw = [(D, listObj vs ep)] ∧ vs.length ≤ i ∧ ∀ j p, j < i → ts.reverse[j]? = some p → g p.i p.k = true → vs ≠ []) ⟨none, none, 0, [], rfl, rfl, Nat.le_refl _, fun j p hj => absurd hj (Nat.not_lt_zero _)⟩ ?_ ?_ ?_
  · intro i h' hJ b hb
    rcases List.mem_cons.mp hb with rfl | hb
    · exact ⟨_, hJ.1.choose_spec.1⟩
    · rw [List.mem_singleton] at hb
      subst hb
      exact ⟨_, hJ.2.choose_spec.1⟩
  · rintro i v b₁ h₄ _ _ t₄ hi hP ⟨xc, xd, ep, vs, rfl, rfl, hvl, hin⟩ k₄ S₄ K hK
    obtain ⟨p, hpj, hpm, rfl⟩ := at' i v hP
    have hi' : i < 25 := by rw [hlen] at hi; omega
    refine q_unpack2 hA S₄ (isTuple_of (S₄.keep _ _ (k₄ _ _ (htup p hpm)))) (by walk_at "put") (by walk_at "put") fun h₅ t₅ S₅ => ?_
    refine wpAny_mono (htest p.i p.k b₁ h₅ cenv t₅ p.u p.v _ C0 k₄ S₅) (fun ok s₁₀ hok => ?_) fun _ _ z => z.elim
    obtain ⟨h₁₀, t₁₀, rfl, rfl, k₁₀⟩ := hok
    have S₁₀ := S₅.keeps k₁₀
    refine ⟨fun hb => ?_, fun hb => ?_⟩
    · refine q_cint fun u1 t1 => ?_
      refine q_append (l := D) (vs := vs) (ep := ep) S₁₀ (by walk_at "mem") (by have := sizeLine_big; omega) (fun ep' => by walk_at "turn") fun ep' h₁₃ S₁₃ => ?_
      exact hK h₁₃ _ _ _ S₁₃ ⟨_, _, ep', _, rfl, rfl, by rw [List.length_append, List.length_singleton]; omega, fun j p' _ _ _ z => by simp at z⟩
    · refine hK h₁₀ _ _ _ S₁₀ ⟨_, _, ep, vs, rfl, rfl, by omega, fun j p' hj hp' hg => ?_⟩
      rcases Nat.lt_or_eq_of_le (Nat.le_of_lt_succ hj) with q | q
      · exact hin j p' q hp' hg
      · subst q
        rw [hpj] at hp'
        cases hp'
        rw [hb] at hg; cases hg
  · rintro h₄ _ _ t₄ ⟨xc, xd, ep, vs, rfl, rfl, hvl, hin⟩ S₄
    obtain ⟨m, hn, _⟩ := S₄.ns
    refine ⟨m, hn, fun h'' hs'' => ?_⟩
    have hD := S₄.new (D, listObj vs ep) List.mem_cons_self
    have hDC : D ≠ cenv.locals := S₄.ne (o := listObj vs ep) List.mem_cons_self
    refine kk D h'' _ vs ep (fun a o ea => hs''.extBut a o (fun z => by rw [z, S₄.apart] at ea; cases ea) (S₄.keep a o ea)) ((hs''.2 D hDC).trans hD.1) (by rw [hlen] at hvl; omega) fun ⟨c, d, hb, hg⟩ => ?_
    obtain ⟨p, hp, rfl, rfl⟩ := hall c d hb
    obtain ⟨j, hj, hj'⟩ := List.getElem_of_mem (List.mem_reverse.mpr hp)
    have hj2 : j < ts.length := by rw [List.length_reverse] at hj; exact hj
    exact hin j p (by rw [hlen]; exact hj2) (by rw [List.getElem?_eq_getElem hj, hj']) hg
  · intro i v h' t' Q' hP hJ hq
    obtain ⟨p, _, _, rfl⟩ := at' i v hP
    exact wpAny_letOwnedTupleGo_listiter (s := sh s h' t') hJ.1 hq
theorem q_eqEmpty {D L : Addr} {vs : List Value} {Q : Value → Shared → Prop} (hu : A.units < cLine) (hD : h.IsList D vs.toArray) (hL : h.IsList L ([] : List Value).toArray) (hv : vs ≠ []) (k : Q (.bool false) (sh s h t)) : wpAny (model prog w) A (compareOp .Eq (.ref D) (.ref L)) Q E (sh s h t) :=
  SeqAt.RcAt.lists_lengths (A := A) (s := sh s h t) hD hL (by
    rw [List.size_toArray, List.size_toArray, bne_iff_ne]
    intro z
    exact hv (List.length_eq_zero_iff.mp z)) hu prog w E Q k
theorem one_test {cells : List (Str × Addr)} {scope : Scope} {L : Fin 5 → Fin 5 → Bool} {M ci ck cL : Addr} {i k c d : Fin 5} {ui uk uc ud : Tok} {p1 p2 p3 p4 p5 p6 p7 p8 p9 q1 q2 q3 q4 q5 q6 q7 q8 q9 r1 : Pos} {whole : Sem Value}
    (S : St h₀ env h [(Str.ofString "c", some (.int (c.val : Int) uc)), (Str.ofString "d", some (.int (d.val : Int) ud))] nw) (e : EnvIs env scope cells)
    (s1 : scope.names.lookup (Str.ofString "i") = some .free) (s2 : scope.names.lookup (Str.ofString "k") = some .free) (s3 : scope.names.lookup (Str.ofString "left") = some .free)
    (l1 : cells.lookup (Str.ofString "i") = some ci) (l2 : cells.lookup (Str.ofString "k") = some ck) (l3 : cells.lookup (Str.ofString "left") = some cL)
    (h1 : h.IsCell ci (some (.int (i.val : Int) ui))) (h2 : h.IsCell ck (some (.int (k.val : Int) uk))) (h3 : h.IsCell cL (some (.ref M))) (hm : Mat h M L) :
    wpAny (model prog w) A (isTrue (.BoolOp .And [.BoolOp .Or [.Compare (.Name (Str.ofString "c") p1) [.Eq] [.Name (Str.ofString "i") p2] p3, .Subscript (.Subscript (.Name (Str.ofString "left") p4) (.Name (Str.ofString "c") p5) p6) (.Name (Str.ofString "i") p7) p8] p9,
        .BoolOp .Or [.Compare (.Name (Str.ofString "d") q1) [.Eq] [.Name (Str.ofString "k") q2] q3, .Subscript (.Subscript (.Name (Str.ofString "left") q4) (.Name (Str.ofString "k") q5) q6) (.Name (Str.ofString "d") q7) q8] q9] r1) env whole)
      (fun v s' => ∃ h'' t'', v = ((c == i || L c i) && (d == k || L k d)) ∧ s' = sh s h'' t'' ∧ Keep h h'') (fun _ _ => False) (sh s h t) := by
  have eqv : ∀ x y : Fin 5, ((x.val : Int) == (y.val : Int)) = (x == y) := fun x y => by
    rw [Bool.eq_iff_iff, beq_iff_eq, beq_iff_eq]
    exact ⟨fun z => Fin.ext (by omega), fun z => by rw [z]⟩
  have second : ∀ b1 : Bool, b1 = true → (c == i || L c i) = b1 → wpAny (model prog w) A (isTrue (.BoolOp .Or [.Compare (.Name (Str.ofString "d") q1) [.Eq] [.Name (Str.ofString "k") q2] q3, .Subscript (.Subscript (.Name (Str.ofString "left") q4) (.Name (Str.ofString "k") q5) q6) (.Name (Str.ofString "d") q7) q8] q9) env (eval (.BoolOp .Or [.Compare (.Name (Str.ofString "d") q1) [.Eq] [.Name (Str.ofString "k") q2] q3, .Subscript (.Subscript (.Name (Str.ofString "left") q4) (.Name (Str.ofString "k") q5) q6) (.Name (Str.ofString "d") q7) q8] q9) env))
      (fun v s' => ∃ h'' t'', v = ((c == i || L c i) && (d == k || L k d)) ∧ s' = sh s h'' t'' ∧ Keep h h'') (fun _ _ => False) (sh s h t) := by
    rintro b1 rfl hb
    rw [hb, Bool.true_and]
    refine q_anyTrue2 (wpAny_isTrue_Compare1 (q_ld S (by walk_at "has") (q_ldc S e (.inl s2) l2 h2 (q_eq (wpAny_truthy_bool ⟨fun hq => ?_, fun hq => ?_⟩)))))
    · rw [eqv] at hq
      rw [hq, Bool.false_or]
      exact wpAny_isTrue_value (q_mat hm (fun _ z => q_ldc S e (.inl s3) l3 h3 z) (fun _ z => q_ldc S e (.inl s2) l2 h2 z) (fun _ z => q_ld S (by walk_at "has") z) (wpAny_truthy_bool ⟨h, t, rfl, rfl, Keep.refl _⟩))
    · rw [eqv] at hq
      rw [hq, Bool.true_or]
      exact ⟨h, t, rfl, rfl, Keep.refl _⟩
  refine q_allTrue2 (q_anyTrue2 (wpAny_isTrue_Compare1 (q_ld S (by walk_at "has") (q_ldc S e (.inl s1) l1 h1 (q_eq (wpAny_truthy_bool ⟨fun hq => ?_, fun hq => ⟨fun _ => ?_, fun z => by cases z⟩⟩))))))
  · rw [eqv] at hq
    refine wpAny_isTrue_value (q_mat hm (fun _ z => q_ldc S e (.inl s3) l3 h3 z) (fun _ z => q_ld S (by walk_at "has") z) (fun _ z => q_ldc S e (.inl s1) l1 h1 z) (wpAny_truthy_bool ⟨fun hl => ?_, fun hl => ?_⟩))
    · exact second _ rfl (by rw [hl, Bool.or_true])
    · rw [hq, hl]
      exact ⟨h, t, rfl, rfl, Keep.refl _⟩
  · rw [eqv] at hq
    exact second _ rfl (by rw [hq, Bool.true_or])
end
end
section
open PySem PySem.W PySem.Spec PySem.Calls PyProof.Rows
set_option maxRecDepth 100000
set_option maxHeartbeats 800000
def lawFr (x0 x1 x2 x3 : Option Value) : Locals := [(Str.ofString "script", x0), (Str.ofString "told", x1), (Str.ofString "leads", x2), (Str.ofString "wrong", x3)]
def lawLed (c0 : Nat) (os : Nat → Obj) (y0 y1 y2 y3 y4 y5 y6 y7 : Option Value) : Led :=
  [(0 + c0, cellO (os 0) y0), (1 + c0, cellO (os 1) y1), (2 + c0, cellO (os 2) y2), (3 + c0, cellO (os 3) y3), (4 + c0, cellO (os 4) y4), (5 + c0, cellO (os 5) y5), (6 + c0, cellO (os 6) y6), (7 + c0, cellO (os 7) y7)]
section
variable {x0 x1 x2 x3 : Option Value} {c0 : Nat} {os : Nat → Obj} {y0 y1 y2 y3 y4 y5 y6 y7 : Option Value} {v : Value}
theorem fr_h0 : Has (lawFr (some v) x1 x2 x3) (Str.ofString "script") v := by unfold lawFr; walk_at "has"
theorem fr_p0 : Put (lawFr x0 x1 x2 x3) (Str.ofString "script") v (lawFr (some v) x1 x2 x3) := by unfold lawFr; walk_at "put"
theorem fr_h1 : Has (lawFr x0 (some v) x2 x3) (Str.ofString "told") v := by unfold lawFr; walk_at "has"
theorem fr_p1 : Put (lawFr x0 x1 x2 x3) (Str.ofString "told") v (lawFr x0 (some v) x2 x3) := by unfold lawFr; walk_at "put"
theorem fr_h2 : Has (lawFr x0 x1 (some v) x3) (Str.ofString "leads") v := by unfold lawFr; walk_at "has"
theorem fr_p2 : Put (lawFr x0 x1 x2 x3) (Str.ofString "leads") v (lawFr x0 x1 (some v) x3) := by unfold lawFr; walk_at "put"
theorem fr_h3 : Has (lawFr x0 x1 x2 (some v)) (Str.ofString "wrong") v := by unfold lawFr; walk_at "has"
theorem fr_p3 : Put (lawFr x0 x1 x2 x3) (Str.ofString "wrong") v (lawFr x0 x1 x2 (some v)) := by unfold lawFr; walk_at "put"
theorem led_m0 : (0 + c0, cellO (os 0) y0) ∈ lawLed c0 os y0 y1 y2 y3 y4 y5 y6 y7 := by unfold lawLed; walk_at "mem"
theorem led_t0 : Turn (lawLed c0 os y0 y1 y2 y3 y4 y5 y6 y7) (0 + c0) (cellO (os 0) (some v)) (lawLed c0 os (some v) y1 y2 y3 y4 y5 y6 y7) := by unfold lawLed; walk_at "turn"
theorem led_m1 : (1 + c0, cellO (os 1) y1) ∈ lawLed c0 os y0 y1 y2 y3 y4 y5 y6 y7 := by unfold lawLed; walk_at "mem"
theorem led_t1 : Turn (lawLed c0 os y0 y1 y2 y3 y4 y5 y6 y7) (1 + c0) (cellO (os 1) (some v)) (lawLed c0 os y0 (some v) y2 y3 y4 y5 y6 y7) := by unfold lawLed; walk_at "turn"
theorem led_m2 : (2 + c0, cellO (os 2) y2) ∈ lawLed c0 os y0 y1 y2 y3 y4 y5 y6 y7 := by unfold lawLed; walk_at "mem"
theorem led_t2 : Turn (lawLed c0 os y0 y1 y2 y3 y4 y5 y6 y7) (2 + c0) (cellO (os 2) (some v)) (lawLed c0 os y0 y1 (some v) y3 y4 y5 y6 y7) := by unfold lawLed; walk_at "turn"
theorem led_m3 : (3 + c0, cellO (os 3) y3) ∈ lawLed c0 os y0 y1 y2 y3 y4 y5 y6 y7 := by unfold lawLed; walk_at "mem"
theorem led_t3 : Turn (lawLed c0 os y0 y1 y2 y3 y4 y5 y6 y7) (3 + c0) (cellO (os 3) (some v)) (lawLed c0 os y0 y1 y2 (some v) y4 y5 y6 y7) := by unfold lawLed; walk_at "turn"
theorem led_m4 : (4 + c0, cellO (os 4) y4) ∈ lawLed c0 os y0 y1 y2 y3 y4 y5 y6 y7 := by unfold lawLed; walk_at "mem"
theorem led_t4 : Turn (lawLed c0 os y0 y1 y2 y3 y4 y5 y6 y7) (4 + c0) (cellO (os 4) (some v)) (lawLed c0 os y0 y1 y2 y3 (some v) y5 y6 y7) := by unfold lawLed; walk_at "turn"
theorem led_m5 : (5 + c0, cellO (os 5) y5) ∈ lawLed c0 os y0 y1 y2 y3 y4 y5 y6 y7 := by unfold lawLed; walk_at "mem"
theorem led_t5 : Turn (lawLed c0 os y0 y1 y2 y3 y4 y5 y6 y7) (5 + c0) (cellO (os 5) (some v)) (lawLed c0 os y0 y1 y2 y3 y4 (some v) y6 y7) := by unfold lawLed; walk_at "turn"
theorem led_m6 : (6 + c0, cellO (os 6) y6) ∈ lawLed c0 os y0 y1 y2 y3 y4 y5 y6 y7 := by unfold lawLed; walk_at "mem"
theorem led_t6 : Turn (lawLed c0 os y0 y1 y2 y3 y4 y5 y6 y7) (6 + c0) (cellO (os 6) (some v)) (lawLed c0 os y0 y1 y2 y3 y4 y5 (some v) y7) := by unfold lawLed; walk_at "turn"
theorem led_m7 : (7 + c0, cellO (os 7) y7) ∈ lawLed c0 os y0 y1 y2 y3 y4 y5 y6 y7 := by unfold lawLed; walk_at "mem"
theorem led_t7 : Turn (lawLed c0 os y0 y1 y2 y3 y4 y5 y6 y7) (7 + c0) (cellO (os 7) (some v)) (lawLed c0 os y0 y1 y2 y3 y4 y5 y6 (some v)) := by unfold lawLed; walk_at "turn"
end
local macro_rules | `(tactic| walk_at "has") => `(tactic| first | exact fr_h0 | exact fr_h1 | exact fr_h2 | exact fr_h3 | (repeat (first | exact Has.here | apply Has.there)))
local macro_rules | `(tactic| walk_at "put") => `(tactic| first | exact fr_p0 | exact fr_p1 | exact fr_p2 | exact fr_p3 | (repeat (first | exact Put.here | apply Put.there)))
local macro_rules | `(tactic| walk_at "mem") => `(tactic| first | exact led_m0 | exact led_m1 | exact led_m2 | exact led_m3 | exact led_m4 | exact led_m5 | exact led_m6 | exact led_m7 | (repeat (first | exact List.Mem.head _ | apply List.Mem.tail)))
local macro_rules | `(tactic| walk_at "turn") => `(tactic| first | exact led_t0 | exact led_t1 | exact led_t2 | exact led_t3 | exact led_t4 | exact led_t5 | exact led_t6 | exact led_t7 | (repeat (first | exact Turn.here | apply Turn.there)))
theorem two_getD {l : List Int} (h : l.length = 2) : l = [l.getD 0 0, l.getD 1 0] := by
  cases l with
  | nil => cases h
  | cons a r => cases r with
    | nil => cases h
    | cons b r => cases r with
      | nil => rfl
      | cons c r => simp at h
theorem two_ex {α : Type} {l : List α} (h : l.length = 2) : ∃ a b, l = [a, b] := by
  cases l with
  | nil => cases h
  | cons a r => cases r with
    | nil => cases h
    | cons b r => cases r with
      | nil => exact ⟨a, b, rfl⟩
      | cons c r => simp at h
def toldF (ns : List Int) : List Int := ns.take 5 ++ [2, 34, 4, 7, 11].drop ns.length
def szF (n : Int) : Int := 1 + (n.fdiv 31).fmod 5
def sizesF (ns : List Int) : List Int := ((toldF ns).take 2).map szF
theorem toldF_len (ns : List Int) : (toldF ns).length = 5 := by unfold toldF; simp; omega
theorem IntsAre.append {vs us : List Value} {ns ms : List Int} (h : IntsAre vs ns) (h' : IntsAre us ms) : IntsAre (vs ++ us) (ns ++ ms) := by
  induction h with
  | nil => exact h'
  | cons n t _ ih => exact .cons n t ih
theorem IntsAre.take {vs : List Value} {ns : List Int} (h : IntsAre vs ns) : ∀ j, IntsAre (vs.take j) (ns.take j) := by
  induction h with
  | nil => intro j; simp; exact .nil
  | cons n t _ ih =>
    intro j
    cases j with
    | zero => exact .nil
    | succ j => exact .cons n t (ih j)
theorem IntsAre.drop {vs : List Value} {ns : List Int} (h : IntsAre vs ns) : ∀ j, IntsAre (vs.drop j) (ns.drop j) := by
  induction h with
  | nil => intro j; simp; exact .nil
  | cons n t h ih =>
    intro j
    cases j with
    | zero => exact .cons n t h
    | succ j => exact ih j
theorem g_below (P : Params) : nsFind (globE P) (Str.ofString "_law_below") = some (.ref 141) := by rfl
theorem keep_below (P : Params) : keepIn (hd.heap_39 P) (.ref 141) = true := by rfl
theorem colsF_len (x : Str) : (colsF x).length = 5 := by unfold colsF; simp
theorem g_ws (P : Params) : nsFind (globE P) (Str.ofString "Whitespace") = some (.ref 118) := by rfl
theorem keep_ws (P : Params) : keepIn (hd.heap_39 P) (.ref 118) = true := by rfl
theorem g_lead (P : Params) : nsFind (globE P) (Str.ofString "_law_lead") = some (.ref 129) := by rfl
theorem keep_lead (P : Params) : keepIn (hd.heap_39 P) (.ref 129) = true := by rfl
theorem g_columns (P : Params) : nsFind (globE P) (Str.ofString "_law_columns") = some (.ref 136) := by rfl
theorem keep_columns (P : Params) : keepIn (hd.heap_39 P) (.ref 136) = true := by rfl
theorem St.takes {h₀ h : Heap} {env : Env} {fr : Locals} (S : St h₀ env h fr []) (os : Led) (ho : ∀ p ∈ os, h.get? p.1 = some p.2 ∧ h₀.get? p.1 = none ∧ p.1 ≠ env.locals) (hn : (os.map (·.1)).Nodup) : St h₀ env h fr os :=
  ⟨S.fn, S.ns, S.nd, S.kd, S.keep, S.apart, fun p hp => ⟨(ho p hp).1, (ho p hp).2.1⟩, List.nodup_cons.mpr ⟨fun hm => by
    obtain ⟨p, hp, z⟩ := List.mem_map.mp hm
    exact (ho p hp).2.2 z, hn⟩⟩
theorem q_slice {prog : Program} {w : World} {A : Around} {E : Value → Shared → Prop} {s s₀ : Shared} {env : Env} {value : Expr} {lower upper : Option Expr} {p pos : Pos} {Q : Value → Shared → Prop}
    (k : wpAny (model prog w) A (eval value env) (fun o s₁ => wpAny (model prog w) A (evalPart lower env) (fun vl s₂ => wpAny (model prog w) A (evalPart upper env) (fun vu s₃ =>
      ∃ l vs lo hi h₃ t₃, o = .ref l ∧ s₃ = sh s h₃ t₃ ∧ h₃.IsList l (List.toArray vs) ∧ vs.length ≤ 1000 ∧ IsPart vl lo ∧ IsPart vu hi ∧ ∀ D h' t', Keep h₃ h' → h₃.get? D = none → h'.get? D = some (listObj (slicePick vs.toArray lo hi none).toList 0) → Q (.ref D) (sh s h' t')) E s₂) E s₁) E s₀)
    : wpAny (model prog w) A (eval (.Subscript value (.Slice lower upper none p) pos) env) Q E s₀ := by
  refine Subscript_ (wpAny_mono k (fun o s₁ h₁ => wpAny_Slice (wpAny_mono h₁ (fun vl s₂ h₂ => wpAny_mono h₂ (fun vu s₃ h₃ => wpAny_pure ?_) fun _ _ z => z) fun _ _ z => z)) fun _ _ z => z)
  obtain ⟨l, vs, lo, hi, h₃, t₃, rfl, rfl, hl, hs, pl, pu, kk⟩ := h₃
  have hl' := lk hl (Keep.push h₃ { cls := .type "slice", data := .fields #[vl, vu, .none] })
  refine tail_any (s := sh s (h₃.push { cls := .type "slice", data := .fields #[vl, vu, .none] }) t₃) hl'.typeIs slot_list_getitem.lookup (wpAny_getItem_list_slice (s := sh s (h₃.push { cls := .type "slice", data := .fields #[vl, vu, .none] }) t₃) hl' (Heap.IsSliceOf.new h₃ vl vu .none) pl pu .none (by decide) ?_ (by have := sizeLine_big; simp; omega)) (ops := [.ref h₃.objs.size, .ref l]) rfl
  exact kk _ _ _ ((Keep.push h₃ _).trans (Keep.push _ _)) (none_of_ge (by rw [Heap.size_push]; exact Nat.le_succ _)) (Heap.get?_push_size _ rfl)
theorem g_word (P : Params) : nsFind (globE P) (Str.ofString "_law_word") = some (.ref 146) := by rfl
theorem keep_word (P : Params) : keepIn (hd.heap_39 P) (.ref 146) = true := by rfl
theorem g_seen (P : Params) : nsFind (globE P) (Str.ofString "_law_seen") = some (.ref 153) := by rfl
theorem keep_seen (P : Params) : keepIn (hd.heap_39 P) (.ref 153) = true := by rfl
theorem szF_in (n : Int) : szF n ∈ ([1, 2, 3, 4, 5] : List Int) := by
  have h0 := Int.fmod_nonneg_of_pos (n.fdiv 31) (b := 5) (by decide)
  have h1 := Int.fmod_lt_of_pos (n.fdiv 31) (b := 5) (by decide)
  unfold szF
  generalize (n.fdiv 31).fmod 5 = m at *
  simp only [List.mem_cons, List.not_mem_nil, or_false]
  omega
theorem sizesF_in (ns : List Int) : ∀ z ∈ sizesF ns, z ∈ ([1, 2, 3, 4, 5] : List Int) := fun z hz => by
  obtain ⟨n, _, rfl⟩ := List.mem_map.mp hz
  exact szF_in n
theorem wdGo_len (st : Fin 5 → Int) : ∀ (f : Nat) (L : List (Fin 5)) (wd : Str) (r : Int), (wdGo st f L wd r).length ≤ wd.length + 2 * f
  | 0, _, _, _ => Nat.le_refl _
  | f + 1, L, wd, r => by
    rw [wdGo]
    refine Nat.le_trans (wdGo_len st f _ _ _) ?_
    rw [Str.length_append, letter_len]
    split
    · rw [Str.length_append, bar_len]; omega
    · omega
theorem word_small (st : Fin 5 → Int) : (wordF st).length ≤ 100 := by
  unfold wordF
  refine Nat.le_trans (wdGo_len st 5 _ _ _) ?_
  rw [str_nil_len]; decide
theorem g_near (P : Params) : nsFind (globE P) (Str.ofString "_law_near") = some (.ref 160) := by rfl
theorem keep_near (P : Params) : keepIn (hd.heap_39 P) (.ref 160) = true := by rfl
theorem evp_none {M : Model} {A : Around} {E : Value → Shared → Prop} {s : Shared} {env : Env} {Q : Value → Shared → Prop} (k : Q .none s) : wpAny M A (evalPart none env) Q E s := wpAny_pure k
theorem evp_some {M : Model} {A : Around} {E : Value → Shared → Prop} {s : Shared} {env : Env} {e : Expr} {Q : Value → Shared → Prop} (k : wpAny M A (eval e env) Q E s) : wpAny M A (evalPart (some e) env) Q E s := k
section
variable {prog : Program} {w : World} {A : Around} {E : Value → Shared → Prop} {s : Shared} {h : Heap} {t : Nat} {a b : Addr} {m : Fin 5 → Fin 5 → Bool} {Q : Value → Shared → Prop}
theorem ofFnA (f : Fin 5 → Value) (j : Nat) (h : j < (List.ofFn f).toArray.size) (hj : j < 5) : (List.ofFn f).toArray[j]'h = f ⟨j, hj⟩ := by
  rw [List.getElem_toArray, List.getElem_ofFn]
theorem rows_eq {A : Around} {s : Shared} {f f' : Fin 5 → Value} (hh : ∀ i, SeqAt.EqAt A s (f i) (f' i) true) (j : Nat) (h1 : j < (List.ofFn f).toArray.size) (h2 : j < (List.ofFn f').toArray.size) :
    SeqAt.EqAt A s ((List.ofFn f).toArray[j]'h1) ((List.ofFn f').toArray[j]'h2) ((fun _ => true) j) := by
  have hj : j < 5 := by rw [List.size_toArray, List.length_ofFn] at h1; exact h1
  rw [ofFnA f j h1 hj, ofFnA f' j h2 hj]
  exact hh _
theorem all_true (n : Nat) : ((List.range n).all fun _ => true) = true := by simp
theorem mat_rows (hu : A.units + 2 < cLine) (r r' : Fin 5 → Addr) (ha : ∀ i, h.IsList (r i) (List.ofFn fun k => Value.bool (m i k)).toArray) (hb : ∀ i, h.IsList (r' i) (List.ofFn fun k => Value.bool (m i k)).toArray) :
    ∀ i, SeqAt.EqAt A.in1 (sh s h t) (Value.ref (r i)) (Value.ref (r' i)) true := by
  intro i
  by_cases q : r i = r' i
  · rw [q]; exact SeqAt.EqAt.same _
  · refine SeqAt.EqAt.of_refs q ?_
    have := SeqAt.RcAt.lists (A := A.in1) (s := sh s h t) (e := fun _ => true) (ha i) (hb i) rfl (by show A.units + 1 < _; omega) (rows_eq fun k => by
      have := SeqAt.EqAt.bool_bool (A := A.in1.in1) (s := sh s h t) (m i k) (m i k)
      rw [beq_self_eq_true] at this
      exact this)
    rw [all_true] at this
    exact this
theorem q_neMat (hu : A.units + 2 < cLine) (ha : Mat h a m) (hb : Mat h b m) (k : Q (.bool false) (sh s h t)) : wpAny (model prog w) A (compareOp .NotEq (.ref a) (.ref b)) Q E (sh s h t) := by
  obtain ⟨r, ra, rr⟩ := ha
  obtain ⟨r', rb, rr'⟩ := hb
  exact SeqAt.RcNeAt.lists (A := A) (s := sh s h t) (e := fun _ => true) ra rb (by simp) (by omega) (rows_eq (mat_rows hu r r' rr rr')) prog w E Q (by rw [all_true]; exact k)
theorem q_eqMat (hu : A.units + 2 < cLine) (ha : Mat h a m) (hb : Mat h b m) (k : Q (.bool true) (sh s h t)) : wpAny (model prog w) A (compareOp .Eq (.ref a) (.ref b)) Q E (sh s h t) := by
  obtain ⟨r, ra, rr⟩ := ha
  obtain ⟨r', rb, rr'⟩ := hb
  exact SeqAt.RcAt.lists (A := A) (s := sh s h t) (e := fun _ => true) ra rb (by simp) (by omega) (rows_eq (mat_rows hu r r' rr rr')) prog w E Q (by rw [all_true]; exact k)
end
/-- five rows -/
def Rows (h : Heap) (W : Addr) (ws : Fin 5 → WS) : Prop := ∃ r : Fin 5 → Addr, h.IsList W (List.ofFn fun i => Value.ref (r i)).toArray ∧ ∀ i, WsAt h (r i) (ws i)
theorem Rows.keeps {h h' : Heap} {W : Addr} {ws : Fin 5 → WS} (x : Rows h W ws) (k : Keep h h') : Rows h' W ws := let ⟨r, y, z⟩ := x; ⟨r, lk y k, fun i => (z i).keeps k⟩
/-- five lists of ints -/
def Cols (h : Heap) (C : Addr) (cs : Fin 5 → List Int) : Prop := ∃ r : Fin 5 → Addr, h.IsList C (List.ofFn fun i => Value.ref (r i)).toArray ∧ ∀ i, ∃ vs, h.IsList (r i) (List.toArray vs) ∧ IntsAre vs (cs i)
theorem Cols.keeps {h h' : Heap} {C : Addr} {cs : Fin 5 → List Int} (x : Cols h C cs) (k : Keep h h') : Cols h' C cs := let ⟨r, y, z⟩ := x; ⟨r, lk y k, fun i => let ⟨vs, p, q⟩ := z i; ⟨vs, lk p k, q⟩⟩
section
variable {prog : Program} {w : World} {A : Around} {Q E : Value → Shared → Prop} {s : Shared} {h : Heap} {t : Nat}
theorem law_code {R : Result → Shared → Prop} {a : Addr} {vs : List Value} {ns : List Int} (R0 : Rm A 10 30) (G : Gl w h) (hl : h.IsList a vs.toArray) (hi : IntsAre vs ns) (hlen : ns.length ≤ 63)
    (kk : ∀ h' t', Keep h h' → R (.ok (.ret (.bool true))) (sh s h' t')) : codeAny (model prog w) A (.call (.ref 165) ⟨[.ref a], []⟩) R (sh s h t) := by
  refine q_codeC [Str.ofString "script", Str.ofString "told", Str.ofString "leads", Str.ofString "wrong"] [Str.ofString "script"] (lawFr (some (.ref a)) none none none)
    (by have := R0.dp; omega) G rfl rfl rfl ⟨rfl, rfl, rfl⟩ rfl (by decide +kernel) rfl ?_
  intro env h₁ tk e hL S X
  have R' : Rm (A.deeper env) 9 27 := R0.deeper env
  have hvl := hi.length
  generalize hc0 : h.objs.size + 1 = c0 at e X
  have X' : ∀ n i, (cellsFrom 0 _ []).lookup n = some i → ([Str.ofString "script"].zip [Value.ref a]).reverse.lookup n = none → ∃ o, h₁.get? (i + c0) = some (cellO o none) := fun n i hn hz => by
    obtain ⟨o, ho, hd⟩ := X n i hn
    rw [hz] at hd
    exact ⟨o, by rw [ho]; obtain ⟨c, d, da, sl⟩ := o; cases hd; rfl⟩
  obtain ⟨os, hos⟩ : ∃ os : Nat → Obj, ∀ p ∈ ((lawLed c0 os none none none none none none none none) : Led), h₁.get? p.1 = some p.2 := by
    obtain ⟨o0, h0⟩ := X' (Str.ofString "columns") 0 rfl rfl
    obtain ⟨o1, h1⟩ := X' (Str.ofString "i") 1 rfl rfl
    obtain ⟨o2, h2⟩ := X' (Str.ofString "k") 2 rfl rfl
    obtain ⟨o3, h3⟩ := X' (Str.ofString "left") 3 rfl rfl
    obtain ⟨o4, h4⟩ := X' (Str.ofString "rows") 4 rfl rfl
    obtain ⟨o5, h5⟩ := X' (Str.ofString "sizes") 5 rfl rfl
    obtain ⟨o6, h6⟩ := X' (Str.ofString "words") 6 rfl rfl
    obtain ⟨o7, h7⟩ := X' (Str.ofString "seen") 7 rfl rfl
    refine ⟨fun j => [o0, o1, o2, o3, o4, o5, o6, o7].getD j o0, fun p hp => ?_⟩
    simp only [lawLed, List.mem_cons, List.not_mem_nil, or_false] at hp
    rcases hp with rfl | rfl | rfl | rfl | rfl | rfl | rfl | rfl
    · exact h0
    · exact h1
    · exact h2
    · exact h3
    · exact h4
    · exact h5
    · exact h6
    · exact h7
  have S₁ := S.takes ((lawLed c0 os none none none none none none none none) : Led) (fun p hp => ⟨hos p hp, none_of_ge (by
      simp only [lawLed, List.mem_cons, List.not_mem_nil, or_false] at hp
      rcases hp with rfl | rfl | rfl | rfl | rfl | rfl | rfl | rfl <;> dsimp only <;> omega), by
      rw [hL]
      simp only [lawLed, List.mem_cons, List.not_mem_nil, or_false] at hp
      rcases hp with rfl | rfl | rfl | rfl | rfl | rfl | rfl | rfl <;> dsimp only <;> exact Nat.ne_of_gt (by omega)⟩) (by simp [lawLed])
  have G₁ := G.keeps S₁.keep
  have sl := sizeLine_big
  refine q_cutA (fun s' => ∃ b h' t' T us, s' = sh s h' t' ∧ Keep h b ∧ St b env h' (lawFr (some (.ref a)) (some (.ref T)) none none) ((lawLed c0 os none none none none none none none none) : Led) ∧ b.IsList T (List.toArray us) ∧ IntsAre us (toldF ns)) (fun Q' hQ => ?_) ?_
  · refine (wpAny_Assign_Name (wpAny_BinOp (q_slice (q_ld S₁ (by walk_at "has") (evp_none (evp_some (q_cint fun u5 t5 => ⟨a, vs, none, some 5, h₁, _, rfl, rfl, lk hl S₁.keep, by omega, .none, .int _ _, fun D h₂ t₂ k₂ nD hD => ?_⟩)))))))
    have S₂ := S₁.keeps k₂
    have e5 : slicePick vs.toArray none (some 5) none = (vs.take 5).toArray := slicePick_upto' vs.toArray 5
    rw [e5] at hD
    refine q_slice (s := s) (List_ (args_cons (q_cint fun ua _ => args_cons (q_cint fun ub _ => args_cons (q_cint fun uc _ => args_cons (q_cint fun ud _ => args_cons (q_cint fun ue _ => args_nil (q_newList S₂ (by simp; omega) fun B h₃ S₃ k₃ nB => ?_))))))))
    refine evp_some (wpAny_Call_NameR (q_len (G₁.keeps (k₂.trans k₃)) S₃ e (PyProof.Rows.callWith_builtin1 (args_cons (q_ld S₃ (by walk_at "has") (args_nil (q_len_list (lk hl S₃.keep) (by omega) fun ul t₃ => evp_none ⟨B, _, some (vs.length : Nat), none, h₃, t₃, rfl, rfl, isList_of (S₃.get (by walk_at "mem")), by simp, .int _ _, .none, fun C h₄ t₄ k₄ nC hC => ?_⟩)))))))
    rw [slicePick_from'] at hC
    have S₄ := (S₃.keeps k₄).drop1
    have hD₄ := isList_of (k₄ _ _ (k₃ _ _ hD))
    refine q_addl S₄ hD₄ (isList_of hC) (by simp; omega) fun T h₅ S₅ k₅ nT => ?_
    refine q_st S₅ (by walk_at "put") fun h₆ t₆ S₆ => ?_
    have hT := S₆.get (a := T) (by walk_at "mem")
    have iT : IntsAre (vs.take 5 ++ [Value.int 2 ua, .int 34 ub, .int 4 uc, .int 7 ud, .int 11 ue].drop vs.length) (toldF ns) := by
      rw [hvl]
      exact (hi.take 5).append (IntsAre.drop (.cons 2 ua (.cons 34 ub (.cons 4 uc (.cons 7 ud (.cons 11 ue .nil))))) ns.length)
    have S₇ := S₆.drop1
    obtain ⟨b, kb, _, S₈, hb⟩ := S₇.rebase
    refine hQ _ ⟨b, h₆, t₆, T, _, rfl, kb, S₈, isList_of (hb _ _ hT (S₆.ne (a := T) (by walk_at "mem")) fun z => ?_), iT⟩
    have q := List.nodup_cons.mp (List.nodup_cons.mp S₆.ndn).2
    exact q.1 z
  rintro _ ⟨b, h₂, t₂, T, us, rfl, kb, S₂, hT, iT⟩
  clear S S₁ G₁ hos X X' hl hi
  have Gb : ∀ {h' : Heap}, Keep b h' → Gl w h' := fun k => (G.keeps kb).keeps k
  have hul := iT.length
  rw [toldF_len] at hul
  generalize htl : (fun j : Fin 5 => (toldF ns).getD j.val 0) = tl
  have atT : ∀ j v, j < 5 → us.toArray[j]? = some v → ∃ u, v = .int ((toldF ns).getD j 0) u := fun j v hj hv => by
    obtain ⟨u, hu⟩ := IntsAre_get iT (getElem?_getD (j := j) (by rw [toldF_len]; exact hj))
    have hv' : us[j]? = some v := by simpa using hv
    rw [hu] at hv'
    exact ⟨u, (Option.some.inj hv').symm⟩
  refine q_cutA (fun s' => ∃ b' h' t' M wl, s' = sh s h' t' ∧ Keep b b' ∧ St b' env h' (lawFr (some (.ref a)) (some (.ref T)) (some (.ref M)) none) ((lawLed c0 os none none none none none none none none) : Led) ∧ b'.IsList M (strValues wl).toArray ∧ wl.map (·.1) = List.ofFn fun j => leadF (tl j)) (fun Q' hQ => ?_) ?_
  · refine q_asComp (h₀ := b) (nw := ((lawLed c0 os none none none none none none none none) : Led)) (fr := (lawFr (some (.ref a)) (some (.ref T)) none none)) _ (fun M => (lawFr (some (.ref a)) (some (.ref T)) (some (.ref M)) none)) (swaps_local S₂ (e.kd _ _ rfl (by decide)) rfl (by decide +kernel)) e (by decide +kernel) rfl (by decide +kernel) (by decide) rfl rfl (fun _ => by walk_at "put") ?_
    refine q_ld S₂ (by walk_at "has") ⟨h₂, _, _, _, fun j y os => os = [] ∧ ∃ hj : j < 5, ∃ u, y = .str (leadF (tl ⟨j, hj⟩)) u, rfl, S₂, Src.list R'.hd (lk hT S₂.keep), by simp; omega, ?_, ?_⟩
    · intro j v b₁ h' cenv t' e' hj hP k₁ S'
      have hj' : j < 5 := by rw [List.size_toArray] at hj; omega
      obtain ⟨u, rfl⟩ := atT j v hj' hP
      refine q_abs fun Q2 hQ2 => ?_
      have G' := Gb (S₂.keep.trans (k₁.trans S'.keep))
      refine q_fn G' S' e' (g_lead _) (keep_lead _) (args_cons (q_ld S' (by walk_at "has") (args_nil ⟨G'.kx, lead_spec R'.less G' fun u' h'' t'' k'' => ?_⟩)))
      exact hQ2 _ _ ⟨h'', t'', [], rfl, k'', ⟨rfl, hj', u', by subst htl; rfl⟩, fun p hp => (nomatch hp)⟩
    · intro M h' t' ep zs S' kk' nM nL hM hn hF _
      have hz : ∀ j : Fin 5, ∃ u, (zs.map (·.1))[j.val]? = some (Value.str (leadF (tl j)) u) := fun j => by
        have hj : j.val < zs.length := by rw [hn, List.size_toArray, hul]; exact j.isLt
        obtain ⟨_, hj', u, hy⟩ := hF j.val _ (List.getElem?_eq_getElem hj)
        exact ⟨u, by rw [List.getElem?_map, List.getElem?_eq_getElem hj]; exact congrArg some hy⟩
      obtain ⟨u, hu⟩ := Classical.axiomOfChoice hz
      have el := list5 (zs.map (·.1)) (by rw [List.length_map, hn, List.size_toArray, hul]) _ hu
      have ew : strValues (List.ofFn fun j : Fin 5 => (leadF (tl j), u j)) = List.ofFn fun j => Value.str (leadF (tl j)) (u j) := by unfold strValues; rw [List.map_ofFn]; rfl
      rw [el, ← ew] at hM
      have nMl : M ∉ (((lawLed c0 os none none none none none none none none) : Led).map (·.1)) := fun z => by
        obtain ⟨p, hp, q⟩ := List.mem_map.mp z
        rw [← q, (S₂.new p hp).1] at nM; cases nM
      obtain ⟨b', kb', _, S₃, hb⟩ := S'.rebase
      refine hQ _ ⟨b', h', t', M, _, rfl, kb', S₃, isList_of (hb _ _ hM nL nMl), by rw [List.map_ofFn]; rfl⟩
  rintro _ ⟨b₃, h₃, t₃, M, wl, rfl, kb₃, S₃, hM, hwl⟩
  clear S₂
  have Gb₃ : ∀ {h' : Heap}, Keep b₃ h' → Gl w h' := fun k => Gb (kb₃.trans k)
  have hwn : wl.length = 5 := by have := congrArg List.length hwl; simpa using this
  have atM : ∀ j v, j < 5 → (strValues wl).toArray[j]? = some v → ∃ hj : j < 5, ∃ u, v = .str (leadF (tl ⟨j, hj⟩)) u := fun j v hj hv => by
    have hv' : (strValues wl)[j]? = some v := by simpa using hv
    unfold strValues at hv'
    rw [List.getElem?_map] at hv'
    have h2 : (wl.map (·.1))[j]? = some (leadF (tl ⟨j, hj⟩)) := by rw [hwl, List.getElem?_ofFn, dif_pos hj]
    rw [List.getElem?_map] at h2
    cases hq : wl[j]? with
    | none => rw [hq] at hv'; cases hv'
    | some z =>
      rw [hq] at hv' h2
      refine ⟨hj, z.2, ?_⟩
      rw [← Option.some.inj h2]
      exact (Option.some.inj hv').symm
  have hsz5 : (strValues wl).toArray.size = 5 := by rw [List.size_toArray]; unfold strValues; rw [List.length_map]; exact hwn
  refine q_cutA (fun s' => ∃ b' h' t' C, s' = sh s h' t' ∧ Keep b₃ b' ∧ St b' env h' (lawFr (some (.ref a)) (some (.ref T)) (some (.ref M)) none) (lawLed c0 os (some (.ref C)) none none none none none none none) ∧ Cols b' C fun j => colsF (leadF (tl j))) (fun Q' hQ => ?_) ?_
  · refine wpAny_Assign_Name ?_ (swaps_cell (e.kd _ _ rfl (by decide)))
    refine q_comp _ e (by decide +kernel) rfl (by decide +kernel) (by decide) rfl rfl ?_
    refine q_ld S₃ (by walk_at "has") ⟨h₃, _, _, _, fun j y os => ∃ hj : j < 5, ∃ a vs ep, y = .ref a ∧ os = [(a, listObj vs ep)] ∧ IntsAre vs (colsF (leadF (tl ⟨j, hj⟩))), rfl, Src.list R'.hd (lk hM S₃.keep), by omega, ?_, ?_⟩
    · intro j v b₁ h' cenv t' e' hj hP k₁ S'
      obtain ⟨hj', u, rfl⟩ := atM j v (by omega) hP
      have G' := Gb₃ (S₃.keep.trans (k₁.trans S'.keep))
      refine q_abs fun Q2 hQ2 => ?_
      refine q_fn G' S' e' (g_columns _) (keep_columns _) (args_cons (q_ld S' (by walk_at "has") (args_nil ⟨G'.kx, columns_spec R'.less G' fun D vs ep h'' t'' k'' nD hD hi => ?_⟩)))
      refine hQ2 _ _ ⟨h'', t'', [(D, listObj vs ep)], rfl, k'', ⟨hj', D, vs, ep, rfl, rfl, hi⟩, fun p hp => ?_⟩
      rw [List.mem_singleton] at hp; subst hp
      exact ⟨hD, nD⟩
    · intro C h' t' ep zs k' nC hC hn hF hM'
      rw [hsz5] at hn
      have hz : ∀ j : Fin 5, ∃ a, ∃ vs ep, (zs.map (·.1))[j.val]? = some (Value.ref a) ∧ h₃.get? a = none ∧ h'.get? a = some (listObj vs ep) ∧ IntsAre vs (colsF (leadF (tl j))) := fun j => by
        have hj : j.val < zs.length := by rw [hn]; exact j.isLt
        obtain ⟨hj', a, vs, ep, hy, ho, hi⟩ := hF j.val _ (List.getElem?_eq_getElem hj)
        have hm := hM' zs[j.val] (List.getElem_mem hj) _ (by rw [ho]; exact List.mem_cons_self)
        exact ⟨a, vs, ep, by rw [List.getElem?_map, List.getElem?_eq_getElem hj]; exact congrArg some hy, hm.2, hm.1, hi⟩
      obtain ⟨r, hr⟩ := Classical.axiomOfChoice hz
      rw [list5 (zs.map (·.1)) (by rw [List.length_map]; exact hn) (fun j => Value.ref (r j)) fun j => let ⟨_, _, x, _⟩ := hr j; x] at hC
      obtain ⟨b', kb', _, S', hb⟩ := S₃.freeze k'
      refine q_stc S' (e.kd _ _ rfl (by decide)) (by rw [e.ce]; rfl) (o := os 0) (v₀ := none) (by walk_at "mem") (nw' := (lawLed c0 os (some (.ref C)) none none none none none none none)) (by walk_at "turn") fun h'' S'' _ => ?_
      exact hQ _ ⟨b', h'', t', C, rfl, kb', S'', r, isList_of (hb _ _ nC hC), fun j => let ⟨vs, ep, _, x, y, z⟩ := hr j; ⟨vs, isList_of (hb _ _ x y), z⟩⟩
  rintro _ ⟨b₄, h₄, t₄, C, rfl, kb₄, S₄, hC⟩
  clear S₃
  have Gb₄ : ∀ {h' : Heap}, Keep b₄ h' → Gl w h' := fun k => Gb₃ (kb₄.trans k)
  generalize hcs : (fun j : Fin 5 => colsF (leadF (tl j))) = cs at hC
  have hcl : ∀ j, (cs j).length = 5 := fun j => by rw [← hcs]; exact colsF_len _
  refine q_cutA (fun s' => ∃ b' h' t' L, s' = sh s h' t' ∧ Keep b₄ b' ∧ St b' env h' (lawFr (some (.ref a)) (some (.ref T)) (some (.ref M)) none) (lawLed c0 os (some (.ref C)) none none (some (.ref L)) none none none none) ∧ Mat b' L fun i k => belowF (cs i) (cs k) [1, 2, 3, 4, 5]) (fun Q' hQ => ?_) ?_
  · refine wpAny_Assign_Name ?_ (swaps_cell (e.kd _ _ rfl (by decide)))
    have cC : h₄.IsCell (0 + c0) (some (.ref C)) := ⟨_, S₄.get (by walk_at "mem"), rfl⟩
    refine q_matC (fun i k => belowF (cs i) (cs k) [1, 2, 3, 4, 5]) _ _ R'.hd S₄ e (Gb₄ S₄.keep) rfl rfl (by decide +kernel) rfl (fun _ _ => rfl) (fun _ => rfl) rfl rfl (by decide +kernel) rfl (by decide) (fun _ => rfl) (fun _ => rfl) ?_ ?_
    · intro i k c b₁ h' cenv t' ui uk e' k₁ ci S'
      have kall := k₁.trans S'.keep
      have G' := Gb₄ (S₄.keep.trans kall)
      refine q_abs fun Q2 hQ2 => ?_
      obtain ⟨r, hr, hrr⟩ := hC.keeps (S₄.keep.trans kall)
      obtain ⟨vi, li, ii⟩ := hrr i
      obtain ⟨vk, lk', ik⟩ := hrr k
      have hi5 := i.isLt
      have hk5 := k.isLt
      refine q_fn G' S' e' (g_below _) (keep_below _) (args_cons (Subscript_ (q_ldc S' e' (.inl rfl) rfl (cC.keeps kall) (q_ldc S' e' (.inl rfl) rfl (ci.keeps S'.keep) (q_item hr (by omega) (by omega) (ofFn_at _ i) ?_)))))
      refine args_cons (Subscript_ (q_ldc S' e' (.inl rfl) rfl (cC.keeps kall) (q_ld S' (by walk_at "has") (q_item hr (by omega) (by omega) (ofFn_at _ k) ?_))))
      refine args_cons (List_ (args_cons (q_cint fun ua _ => args_cons (q_cint fun ub _ => args_cons (q_cint fun uc _ => args_cons (q_cint fun ud _ => args_cons (q_cint fun ue _ => args_nil (q_newList S' (by simp; omega) fun B h'' S'' k'' nB => args_nil ⟨(G'.keeps k'').kx, ?_⟩))))))))
      refine below_spec R'.less (G'.keeps k'') (lk li k'') ii (lk lk' k'') ik (isList_of (S''.get (by walk_at "mem"))) (.cons 1 ua (.cons 2 ub (.cons 3 uc (.cons 4 ud (.cons 5 ue .nil))))) (hcl i) (hcl k) (by decide) (by decide) (by decide) fun h5 t5 k5 => ?_
      exact hQ2 _ _ ⟨h5, t5, rfl, rfl, k''.trans k5⟩
    · intro L h' t' k' hm
      obtain ⟨b', kb', _, S', hb⟩ := S₄.freeze k'
      refine q_stc S' (e.kd _ _ rfl (by decide)) (by rw [e.ce]; rfl) (o := os 3) (v₀ := none) (by walk_at "mem") (nw' := (lawLed c0 os (some (.ref C)) none none (some (.ref L)) none none none none)) (by walk_at "turn") fun h'' S'' _ => ?_
      exact hQ _ ⟨b', h'', t', L, rfl, kb', S'', hm.mat hb⟩
  rintro _ ⟨b₅, h₅, t₅, L, rfl, kb₅, S₅, hL5⟩
  clear S₄
  have Gb₅ : ∀ {h' : Heap}, Keep b₅ h' → Gl w h' := fun k => Gb₄ (kb₅.trans k)
  have hM5 := lk hM (kb₄.trans kb₅)
  have hC5 := hC.keeps kb₅
  refine q_cutA (fun s' => ∃ b' h' t' W, s' = sh s h' t' ∧ Keep b₅ b' ∧ St b' env h' (lawFr (some (.ref a)) (some (.ref T)) (some (.ref M)) none) (lawLed c0 os (some (.ref C)) none none (some (.ref L)) (some (.ref W)) none none none) ∧ Rows b' W fun j => wsF (leadF (tl j) ++ Str.ofString "x ")) (fun Q' hQ => ?_) ?_
  · refine wpAny_Assign_Name ?_ (swaps_cell (e.kd _ _ rfl (by decide)))
    refine q_comp _ e (by decide +kernel) rfl (by decide +kernel) (by decide) rfl rfl ?_
    refine q_ld S₅ (by walk_at "has") ⟨h₅, _, _, _, fun j y os => ∃ hj : j < 5, ∃ X, y = .ref X ∧ WsOs X (wsF (leadF (tl ⟨j, hj⟩) ++ Str.ofString "x ")) os, rfl, Src.list R'.hd (lk hM5 S₅.keep), by omega, ?_, ?_⟩
    · intro j v b₁ h' cenv t' e' hj hP k₁ S'
      obtain ⟨hj', u, rfl⟩ := atM j v (by omega) hP
      have G' := Gb₅ (S₅.keep.trans (k₁.trans S'.keep))
      refine q_abs fun Q2 hQ2 => ?_
      obtain ⟨q, hq⟩ := leadF_R (tl ⟨j, hj'⟩)
      have hrl := row_len q
      have hl5 : (leadR q.val).length + (Str.ofString "x ").length ≤ 500 := by rw [← Str.length_append]; exact hrl
      refine q_fn G' S' e' (g_ws _) (keep_ws _) (args_cons (wpAny_BinOp (q_ld S' (by walk_at "has") (q_cstr fun _ _ => q_adds (by rw [hq]; omega) fun _ _ => args_nil ⟨G'.kx, ws_spec R'.less G' (by rw [hq]; exact hrl) fun X os h'' t'' ho k'' hm => ?_⟩))))
      exact hQ2 _ _ ⟨h'', t'', os, rfl, k'', ⟨hj', X, rfl, ho⟩, hm⟩
    · intro W h' t' ep zs k' nW hW hn hF hM'
      rw [hsz5] at hn
      have hz : ∀ j : Fin 5, ∃ X, ∃ os, (zs.map (·.1))[j.val]? = some (Value.ref X) ∧ WsOs X (wsF (leadF (tl j) ++ Str.ofString "x ")) os ∧ Made h₅ h' os := fun j => by
        have hj : j.val < zs.length := by rw [hn]; exact j.isLt
        obtain ⟨hj', X, hy, ho⟩ := hF j.val _ (List.getElem?_eq_getElem hj)
        exact ⟨X, _, by rw [List.getElem?_map, List.getElem?_eq_getElem hj]; exact congrArg some hy, ho, hM' zs[j.val] (List.getElem_mem hj)⟩
      obtain ⟨r, hr⟩ := Classical.axiomOfChoice hz
      rw [list5 (zs.map (·.1)) (by rw [List.length_map]; exact hn) (fun j => Value.ref (r j)) fun j => let ⟨_, x, _⟩ := hr j; x] at hW
      obtain ⟨b', kb', _, S', hb⟩ := S₅.freeze k'
      refine q_stc S' (e.kd _ _ rfl (by decide)) (by rw [e.ce]; rfl) (o := os 4) (v₀ := none) (by walk_at "mem") (nw' := (lawLed c0 os (some (.ref C)) none none (some (.ref L)) (some (.ref W)) none none none)) (by walk_at "turn") fun h'' S'' _ => ?_
      exact hQ _ ⟨b', h'', t', W, rfl, kb', S'', r, isList_of (hb _ _ nW hW), fun j => let ⟨os, _, x, y⟩ := hr j; ⟨os, x, fun p hp => hb _ _ (y p hp).2 (y p hp).1⟩⟩
  rintro _ ⟨b₆, h₆, t₆, W, rfl, kb₆, S₆, hW⟩
  clear S₅
  have Gb₆ : ∀ {h' : Heap}, Keep b₆ h' → Gl w h' := fun k => Gb₅ (kb₆.trans k)
  have hL6 := hL5.keeps kb₆
  have hC6 := hC5.keeps kb₆
  have smW : ∀ j, WsSmall (wsF (leadF (tl j) ++ Str.ofString "x ")) := fun j => by
    obtain ⟨q, hq⟩ := leadF_R (tl j)
    rw [hq]
    obtain ⟨x, y, z⟩ := small_fin q
    exact ⟨x, y, z⟩
  have hless : ∀ i k, lessF (wsF (leadF (tl i) ++ Str.ofString "x ")) (wsF (leadF (tl k) ++ Str.ofString "x ")) = belowF (cs i) (cs k) [1, 2, 3, 4, 5] := fun i k => by
    obtain ⟨q, hq⟩ := leadF_R (tl i)
    obtain ⟨q', hq'⟩ := leadF_R (tl k)
    rw [← hcs]
    show lessF (wsF (leadF (tl i) ++ _)) (wsF (leadF (tl k) ++ _)) = belowF (colsF (leadF (tl i))) (colsF (leadF (tl k))) _
    rw [hq, hq']
    exact less_fin q q'
  generalize hws : (fun j : Fin 5 => wsF (leadF (tl j) ++ Str.ofString "x ")) = ws at hW
  have smW' : ∀ j, WsSmall (ws j) := fun j => by rw [← hws]; exact smW j
  have hless' : ∀ i k, lessF (ws i) (ws k) = belowF (cs i) (cs k) [1, 2, 3, 4, 5] := fun i k => by rw [← hws]; exact hless i k
  refine q_cutA (fun s' => ∃ h' t', s' = sh s h' t' ∧ St b₆ env h' (lawFr (some (.ref a)) (some (.ref T)) (some (.ref M)) none) (lawLed c0 os (some (.ref C)) none none (some (.ref L)) (some (.ref W)) none none none)) (fun Q' hQ => ?_) ?_
  · have cW : h₆.IsCell (4 + c0) (some (.ref W)) := ⟨_, S₆.get (by walk_at "mem"), rfl⟩
    have cL : h₆.IsCell (3 + c0) (some (.ref L)) := ⟨_, S₆.get (by walk_at "mem"), rfl⟩
    refine q_if (wpAny_isTrue_Compare1 (q_matC (fun i k => belowF (cs i) (cs k) [1, 2, 3, 4, 5]) _ _ R'.hd S₆ e (Gb₆ S₆.keep) rfl rfl (by decide +kernel) rfl (fun _ _ => rfl) (fun _ => rfl) rfl rfl (by decide +kernel) rfl (by decide) (fun _ => rfl) (fun _ => rfl) ?_ ?_))
    · intro i k c b₁ h' cenv t' ui uk e' k₁ ci S'
      have kall := k₁.trans S'.keep
      have G' := Gb₆ (S₆.keep.trans kall)
      refine q_abs fun Q2 hQ2 => ?_
      obtain ⟨r, hr, hrr⟩ := hW.keeps (S₆.keep.trans kall)
      have hi5 := i.isLt
      have hk5 := k.isLt
      obtain ⟨dx, es, n, T1, T2, vs1, u1, Wi⟩ := (hrr i).opened
      refine q_mcall (Subscript_ (q_ldc S' e' (.inl rfl) rfl (cW.keeps kall) (q_ldc S' e' (.inl rfl) rfl (ci.keeps S'.keep) (q_item hr (by omega) (by omega) (ofFn_at _ i) (q_getmeth G' Wi.x Wi.d Wi.e.less (callWith_K (K := KK w) G'.kx (keep_less _) (args_cons ?_)))))))
      refine Subscript_ (q_ldc S' e' (.inl rfl) rfl (cW.keeps kall) (q_ld S' (by walk_at "has") (q_item hr (by omega) (by omega) (ofFn_at _ k) (args_nil ⟨G'.kx, ?_⟩))))
      refine less_spec R'.less G' (hrr i) (hrr k) (smW' i) (smW' k) fun h5 t5 k5 => ?_
      rw [hless']
      exact hQ2 _ _ ⟨h5, t5, rfl, rfl, k5⟩
    · intro Z h' t' k' hm
      have hZ : Mat h' Z fun i k => belowF (cs i) (cs k) [1, 2, 3, 4, 5] := hm.mat fun _ _ _ x => x
      refine q_ldc (S₆.keeps k') e (.inr rfl) rfl (cL.keeps k') (q_neMat (by have := R'.un; omega) hZ (hL6.keeps (S₆.keep.trans k')) (wpAny_truthy_bool ⟨fun z => (by cases z), fun _ => wpAny_execs_nil (hQ _ ⟨h', _, rfl, S₆.keeps k'⟩)⟩))
  rintro _ ⟨h₇, t₇, rfl, S₇⟩
  clear S₆
  have hT7 := lk hT (kb₃.trans (kb₄.trans (kb₅.trans kb₆)))
  refine q_cutA (fun s' => ∃ b' h' t' Z zs, s' = sh s h' t' ∧ Keep b₆ b' ∧ St b' env h' (lawFr (some (.ref a)) (some (.ref T)) (some (.ref M)) none) (lawLed c0 os (some (.ref C)) none none (some (.ref L)) (some (.ref W)) (some (.ref Z)) none none) ∧ b'.IsList Z (List.toArray zs) ∧ IntsAre zs (sizesF ns)) (fun Q' hQ => ?_) ?_
  · refine wpAny_Assign_Name ?_ (swaps_cell (e.kd _ _ rfl (by decide)))
    refine q_comp _ e (by decide +kernel) rfl (by decide +kernel) (by decide) rfl rfl ?_
    refine q_slice (s := s) (q_ld S₇ (by walk_at "has") (evp_none (evp_some (q_cint fun u2 t2 => ⟨T, us, none, some 2, h₇, _, rfl, rfl, lk hT7 S₇.keep, by omega, .none, .int _ _, fun D h₈ t₈ k₈ nD hD => ?_⟩))))
    have e2 : slicePick us.toArray none (some 2) none = (us.take 2).toArray := slicePick_upto' us.toArray 2
    rw [e2] at hD
    have i2 := iT.take 2
    have l2 : ((toldF ns).take 2).length = 2 := by rw [List.length_take, toldF_len]; rfl
    have lu : (us.take 2).length = 2 := by rw [i2.length, l2]
    refine ⟨h₈, t₈, _, _, fun j y os => os = [] ∧ ∃ hj : j < 2, ∃ u, y = .int (szF (((toldF ns).take 2).getD j 0)) u, rfl, Src.list R'.hd (isList_of hD), by rw [List.size_toArray]; show (us.take 2).length ≤ _; omega, ?_, ?_⟩
    · intro j v b₁ h' cenv t' e' hj hP k₁ S'
      have hj' : j < 2 := by rw [List.size_toArray] at hj; have : j < (us.take 2).length := hj; omega
      obtain ⟨u, hu⟩ := IntsAre_get i2 (getElem?_getD (j := j) (by omega))
      have hv : (us.take 2)[j]? = some v := by rw [List.getElem?_toArray] at hP; exact hP
      rw [hu] at hv
      cases Option.some.inj hv
      refine q_abs fun Q2 hQ2 => ?_
      refine wpAny_BinOp (q_cint fun _ _ => wpAny_BinOp (wpAny_BinOp (q_ld S' (by walk_at "has") (q_cint fun _ _ => q_fdiv (by decide) (noPylong (by decide)) fun _ _ => q_cint fun _ _ => q_mod (by decide) fun _ _ => q_add fun u' t' => ?_))))
      exact hQ2 _ _ ⟨h', t', [], rfl, Keep.refl _, ⟨rfl, hj', u', rfl⟩, fun p hp => (nomatch hp)⟩
    · intro Z h' t' ep zs k' nZ hZ hn hF _
      have hn2 : zs.length = 2 := by rw [hn, List.size_toArray]; exact lu
      have iz : IntsAre (zs.map (·.1)) (sizesF ns) := by
        unfold sizesF
        refine intsAre_of _ _ (by rw [List.length_map, hn2, l2]) fun j y n hy hn' => ?_
        obtain ⟨_, hj, u, hy'⟩ := hF j y hy
        refine ⟨u, ?_⟩
        rw [hy']
        rw [List.getElem?_map, getElem?_getD (j := j) (by omega)] at hn'
        cases hn'
        rfl
      obtain ⟨b', kb', _, S', hb⟩ := S₇.freeze (k₈.trans k')
      have nZ' : h₇.get? Z = none := by
        cases q : h₇.get? Z with
        | none => rfl
        | some o => rw [k₈ _ _ q] at nZ; cases nZ
      refine q_stc S' (e.kd _ _ rfl (by decide)) (by rw [e.ce]; rfl) (o := os 5) (v₀ := none) (by walk_at "mem") (nw' := (lawLed c0 os (some (.ref C)) none none (some (.ref L)) (some (.ref W)) (some (.ref Z)) none none)) (by walk_at "turn") fun h'' S'' _ => ?_
      exact hQ _ ⟨b', h'', t', Z, _, rfl, kb', S'', isList_of (hb _ _ nZ' hZ), iz⟩
  rintro _ ⟨b₈, h₈, t₈, Z, zs, rfl, kb₈, S₈, hZ, iZ⟩
  clear S₇
  have Gb₈ : ∀ {h' : Heap}, Keep b₈ h' → Gl w h' := fun k => Gb₆ (kb₈.trans k)
  have hL8 := hL6.keeps kb₈
  have hC8 := hC6.keeps kb₈
  have hW8 := hW.keeps kb₈
  generalize hszs : sizesF ns = szs at iZ
  have lz : szs.length = 2 := by rw [← hszs]; unfold sizesF; rw [List.length_map, List.length_take, toldF_len]; rfl
  have inz : ∀ z ∈ szs, z ∈ ([1, 2, 3, 4, 5] : List Int) := by rw [← hszs]; exact sizesF_in ns
  have lzs := iZ.length
  rw [lz] at lzs
  have lev : ∀ i, ∀ z ∈ szs, levelF (ws i) z = (cs i).getD (z - 1).toNat 0 := fun i z hz => by
    obtain ⟨q, hq⟩ := leadF_R (tl i)
    rw [← hws, ← hcs]
    show levelF (wsF (leadF (tl i) ++ _)) z = (colsF (leadF (tl i))).getD _ 0
    rw [hq]
    exact level_at q (inz z hz)
  have rngz : ∀ z ∈ szs, 1 ≤ z ∧ z ≤ 200 := fun z hz => by
    have := inz z hz
    simp only [List.mem_cons, List.not_mem_nil, or_false] at this
    omega
  refine q_cutA (fun s' => ∃ b' h' t' V wl, s' = sh s h' t' ∧ Keep b₈ b' ∧ St b' env h' (lawFr (some (.ref a)) (some (.ref T)) (some (.ref M)) none) (lawLed c0 os (some (.ref C)) none none (some (.ref L)) (some (.ref W)) (some (.ref Z)) (some (.ref V)) none) ∧ b'.IsList V (strValues wl).toArray ∧ wl.map (·.1) = szs.map fun z => wordF fun i => levelF (ws i) z) (fun Q' hQ => ?_) ?_
  · refine wpAny_Assign_Name ?_ (swaps_cell (e.kd _ _ rfl (by decide)))
    have cZ : h₈.IsCell (5 + c0) (some (.ref Z)) := ⟨_, S₈.get (by walk_at "mem"), rfl⟩
    have cW : h₈.IsCell (4 + c0) (some (.ref W)) := ⟨_, S₈.get (by walk_at "mem"), rfl⟩
    refine q_compC _ e (by decide +kernel) rfl (fun _ _ => rfl) (fun _ => rfl) rfl rfl ?_
    refine q_ldc S₈ e (.inr rfl) rfl cZ ⟨h₈, _, _, _, fun j y os => os = [] ∧ ∃ u, y = .str (wordF fun i => levelF (ws i) (szs.getD j 0)) u, rfl, Src.list R'.hd (lk hZ S₈.keep), by rw [List.size_toArray, lzs]; omega, ?_, ?_⟩
    · intro c j v b₁ h' cenv t' e' hj hP k₁ ci S'
      have hj' : j < 2 := by rw [List.size_toArray, lzs] at hj; exact hj
      obtain ⟨u, hu⟩ := IntsAre_get iZ (getElem?_getD (j := j) (by omega))
      have hv : zs[j]? = some v := by rw [List.getElem?_toArray] at hP; exact hP
      rw [hu] at hv
      cases Option.some.inj hv
      have hzm : szs.getD j 0 ∈ szs := List.mem_of_getElem? (getElem?_getD (j := j) (by omega))
      obtain ⟨z, hzz⟩ : ∃ z, szs.getD j 0 = z := ⟨_, rfl⟩
      rw [hzz] at hzm hu ci
      have kall := k₁.trans S'.keep
      have G' := Gb₈ (S₈.keep.trans kall)
      refine q_abs fun Q2 hQ2 => ?_
      obtain ⟨r, hr, hrr⟩ := hW8.keeps (S₈.keep.trans kall)
      refine q_fn G' S' e' (g_word _) (keep_word _) (args_cons (q_comp _ e' (by decide +kernel) rfl (by decide +kernel) (by decide) rfl rfl (q_ldc S' e' (.inl rfl) rfl (cW.keeps kall) ⟨h', _, _, _, fun j y os => os = [] ∧ ∃ hj : j < 5, ∃ u, y = .int (levelF (ws ⟨j, hj⟩) z) u, rfl, Src.list R'.hd hr, by simp; omega, ?_, ?_⟩)))
      · intro j v b₂ h2 cenv2 t2 e2 hj hP k₂ S2
        have hj5 : j < 5 := by rw [List.size_toArray, List.length_ofFn] at hj; exact hj
        have hv : v = .ref (r ⟨j, hj5⟩) := by
          rw [List.getElem?_toArray, List.getElem?_ofFn, dif_pos hj5] at hP
          exact (Option.some.inj hP).symm
        subst hv
        have kall2 := k₂.trans S2.keep
        have G2 := G'.keeps kall2
        refine q_abs fun Q3 hQ3 => ?_
        have Wr := (hrr ⟨j, hj5⟩).keeps kall2
        obtain ⟨dx, es, n, T1, T2, vs1, u1, Wi⟩ := Wr.opened
        refine q_mcall (q_ld S2 (by walk_at "has") (q_getmeth G2 Wi.x Wi.d Wi.e.level (callWith_K (K := KK w) G2.kx (keep_level _) (args_cons (q_ldc S2 e2 (.inl rfl) rfl (ci.keeps (S'.keep.trans kall2)) (args_nil ⟨G2.kx, level_spec R'.less G2 Wr (smW' _) (rngz z hzm).1 (rngz z hzm).2 fun ul h3 t3 k3 => ?_⟩))))))
        exact hQ3 _ _ ⟨h3, t3, [], rfl, k3, ⟨rfl, hj5, ul, rfl⟩, fun p hp => (nomatch hp)⟩
      · intro D h2 t2 ep ys k₂ nD hD hn hF _
        rw [List.size_toArray, List.length_ofFn] at hn
        have iD : IntsAre (ys.map (·.1)) (List.ofFn fun i => levelF (ws i) z) := by
          refine intsAre_of _ _ (by rw [List.length_ofFn]; exact hn) fun j y n hy hn' => ?_
          obtain ⟨_, hj, u, hy'⟩ := hF j y hy
          refine ⟨u, ?_⟩
          rw [List.getElem?_ofFn, dif_pos hj] at hn'
          rw [hy', Option.some.inj hn']
        refine args_nil ⟨(G'.keeps k₂).kx, word_spec R'.less (G'.keeps k₂) (isList_of hD) iD (by rw [List.length_ofFn]) fun u h3 t3 k3 => ?_⟩
        have ew : (fun i : Fin 5 => (List.ofFn fun i => levelF (ws i) z).getD i.val 0) = fun i => levelF (ws i) z := by
          funext i
          rw [List.getD_eq_getElem?_getD, List.getElem?_ofFn, dif_pos i.isLt]; rfl
        rw [ew]
        exact hQ2 _ _ ⟨h3, t3, [], rfl, k₂.trans k3, ⟨rfl, u, by rw [hzz]⟩, fun p hp => (nomatch hp)⟩
    · intro V h' t' ep ys k' nV hV hn hF _
      have hn2 : ys.length = 2 := by rw [hn, List.size_toArray, lzs]
      obtain ⟨wl, hwl1, hwl2⟩ : ∃ wl : List (Str × Tok), ys.map (·.1) = strValues wl ∧ wl.map (·.1) = szs.map fun z => wordF fun i => levelF (ws i) z := by
        obtain ⟨y0, y1, rfl⟩ := two_ex hn2
        obtain ⟨_, u0, e0⟩ := hF 0 y0 rfl
        obtain ⟨_, u1, e1⟩ := hF 1 y1 rfl
        refine ⟨[(_, u0), (_, u1)], ?_, (congrArg (List.map fun z => wordF fun i => levelF (ws i) z) (two_getD lz)).symm⟩
        simp only [List.map_cons, List.map_nil, e0, e1]
        rfl
      rw [hwl1] at hV
      obtain ⟨b', kb', _, S', hb⟩ := S₈.freeze k'
      refine q_stc S' (e.kd _ _ rfl (by decide)) (by rw [e.ce]; rfl) (o := os 6) (v₀ := none) (by walk_at "mem") (nw' := (lawLed c0 os (some (.ref C)) none none (some (.ref L)) (some (.ref W)) (some (.ref Z)) (some (.ref V)) none)) (by walk_at "turn") fun h'' S'' _ => ?_
      exact hQ _ ⟨b', h'', t', V, wl, rfl, kb', S'', isList_of (hb _ _ nV hV), hwl2⟩
  rintro _ ⟨b₉, h₉, t₉, V, wl9, rfl, kb₉, S₉, hV, hwl9⟩
  clear S₈
  have Gb₉ : ∀ {h' : Heap}, Keep b₉ h' → Gl w h' := fun k => Gb₈ (kb₉.trans k)
  have hL9 := hL8.keeps kb₉
  have hC9 := hC8.keeps kb₉
  have hZ9 := lk hZ kb₉
  have sw : ∀ p ∈ wl9, p.1.length ≤ 100 := fun p hp => by
    have : p.1 ∈ wl9.map (·.1) := List.mem_map_of_mem hp
    rw [hwl9] at this
    obtain ⟨z, _, hz⟩ := List.mem_map.mp this
    rw [← hz]
    exact word_small _
  have seenIs : ∀ i k, seenF (wl9.map (·.1)) i k = belowF (cs i) (cs k) szs := fun i k => by
    rw [hwl9]
    exact seen_below ws cs szs (fun z => by rw [z] at lz; cases lz) lev i k
  refine q_cutA (fun s' => ∃ b' h' t' N, s' = sh s h' t' ∧ Keep b₉ b' ∧ St b' env h' (lawFr (some (.ref a)) (some (.ref T)) (some (.ref M)) none) (lawLed c0 os (some (.ref C)) none none (some (.ref L)) (some (.ref W)) (some (.ref Z)) (some (.ref V)) (some (.ref N))) ∧ Mat b' N fun i k => belowF (cs i) (cs k) szs) (fun Q' hQ => ?_) ?_
  · refine wpAny_Assign_Name ?_ (swaps_cell (e.kd _ _ rfl (by decide)))
    have cV : h₉.IsCell (6 + c0) (some (.ref V)) := ⟨_, S₉.get (by walk_at "mem"), rfl⟩
    refine q_matC (fun i k => belowF (cs i) (cs k) szs) _ _ R'.hd S₉ e (Gb₉ S₉.keep) rfl rfl (by decide +kernel) rfl (fun _ _ => rfl) (fun _ => rfl) rfl rfl (by decide +kernel) rfl (by decide) (fun _ => rfl) (fun _ => rfl) ?_ ?_
    · intro i k c b₁ h' cenv t' ui uk e' k₁ ci S'
      have kall := k₁.trans S'.keep
      have G' := Gb₉ (S₉.keep.trans kall)
      refine q_abs fun Q2 hQ2 => ?_
      refine q_fn G' S' e' (g_seen _) (keep_seen _) (args_cons (q_ldc S' e' (.inl rfl) rfl (cV.keeps kall) (args_cons (q_ldc S' e' (.inl rfl) rfl (ci.keeps S'.keep) (args_cons (q_ld S' (by walk_at "has") (args_nil ⟨G'.kx, ?_⟩)))))))
      refine seen_spec R'.less G' (lk hV (S₉.keep.trans kall)) sw fun h5 t5 k5 => ?_
      rw [seenIs]
      exact hQ2 _ _ ⟨h5, t5, rfl, rfl, k5⟩
    · intro N h' t' k' hm
      obtain ⟨b', kb', _, S', hb⟩ := S₉.freeze k'
      refine q_stc S' (e.kd _ _ rfl (by decide)) (by rw [e.ce]; rfl) (o := os 7) (v₀ := none) (by walk_at "mem") (nw' := (lawLed c0 os (some (.ref C)) none none (some (.ref L)) (some (.ref W)) (some (.ref Z)) (some (.ref V)) (some (.ref N)))) (by walk_at "turn") fun h'' S'' _ => ?_
      exact hQ _ ⟨b', h'', t', N, rfl, kb', S'', hm.mat hb⟩
  rintro _ ⟨b₁₀, h₁₀, t₁₀, N, rfl, kb₁₀, S₁₀, hN⟩
  clear S₉
  have Gb₁₀ : ∀ {h' : Heap}, Keep b₁₀ h' → Gl w h' := fun k => Gb₉ (kb₁₀.trans k)
  have hL10 := hL9.keeps kb₁₀
  have hC10 := hC9.keeps kb₁₀
  have hZ10 := lk hZ9 kb₁₀
  generalize hLf : (fun i k => belowF (cs i) (cs k) [1, 2, 3, 4, 5]) = Lf at hL10
  generalize hVf : (fun i k => belowF (cs i) (cs k) szs) = Vf at hN
  have szne : szs ≠ [] := fun z => by rw [z] at lz; cases lz
  have hnear : ∀ i k, Vf i k = true → Lf i k = false → ∃ c d, Vf c d = true ∧ nearF Lf c d = true ∧ (c = i ∨ Lf c i = true) ∧ (d = k ∨ Lf k d = true) := fun i k h1 h2 => by
    rw [← hLf, ← hVf] at *
    exact near_ex (L := fun i k => belowF (cs i) (cs k) [1, 2, 3, 4, 5]) (V := fun i k => belowF (cs i) (cs k) szs) (fun x => below_irr (by decide)) (fun x y z => below_tr) (fun x y z => below_tr) (fun x y => below_sub inz) h1 h2
  refine q_cutA (fun s' => ∃ b' h' t' U, s' = sh s h' t' ∧ Keep b₁₀ b' ∧ St b' env h' (lawFr (some (.ref a)) (some (.ref T)) (some (.ref M)) (some (.ref U))) (lawLed c0 os (some (.ref C)) none none (some (.ref L)) (some (.ref W)) (some (.ref Z)) (some (.ref V)) (some (.ref N))) ∧ Pairs b' U fun i k => Vf i k && nearF Lf i k) (fun Q' hQ => ?_) ?_
  · have cN : h₁₀.IsCell (7 + c0) (some (.ref N)) := ⟨_, S₁₀.get (by walk_at "mem"), rfl⟩
    have cL : h₁₀.IsCell (3 + c0) (some (.ref L)) := ⟨_, S₁₀.get (by walk_at "mem"), rfl⟩
    refine q_wrong (fun i k => Vf i k && nearF Lf i k) _ (fun U => (lawFr (some (.ref a)) (some (.ref T)) (some (.ref M)) (some (.ref U)))) R'.hd S₁₀ e (Gb₁₀ S₁₀.keep) (swaps_local S₁₀ (e.kd _ _ rfl (by decide)) rfl (by decide +kernel)) rfl rfl (by decide +kernel) (by decide +kernel) (by decide) rfl rfl (fun _ => by walk_at "put") ?_ ?_
    · intro i k b₁ h' cenv t' ui uk nw' e' k₁ S'
      have kall := k₁.trans S'.keep
      have G' := Gb₁₀ (S₁₀.keep.trans kall)
      refine q_abs fun Q2 hQ2 => ?_
      have hN' := hN.keeps (S₁₀.keep.trans kall)
      have hL' := hL10.keeps (S₁₀.keep.trans kall)
      refine q_allTrue2 (wpAny_isTrue_value (q_mat hN' (fun _ q => q_ldc S' e' (.inl rfl) rfl (cN.keeps kall) q) (fun _ q => q_ld S' (by walk_at "has") q) (fun _ q => q_ld S' (by walk_at "has") q) (wpAny_truthy_bool ⟨fun hb => ?_, fun hb => hQ2 _ _ ⟨h', _, by rw [hb]; rfl, rfl, Keep.refl _⟩⟩)))
      refine wpAny_isTrue_value (q_fn G' S' e' (g_near _) (keep_near _) (args_cons (q_ldc S' e' (.inl rfl) rfl (cL.keeps kall) (args_cons (q_ld S' (by walk_at "has") (args_cons (q_ld S' (by walk_at "has") (args_nil ⟨G'.kx, near_spec R'.less G' hL' fun h5 t5 k5 => wpAny_truthy_bool (hQ2 _ _ ⟨h5, t5, by rw [hb]; rfl, rfl, k5⟩)⟩))))))))
    · intro U h' t' bb kb S' hp
      exact hQ _ ⟨bb, h', t', U, rfl, kb, S', hp⟩
  rintro _ ⟨b₁₁, h₁₁, t₁₁, U, rfl, kb₁₁, S₁₁, hU⟩
  clear S₁₀
  have Gb₁₁ : ∀ {h' : Heap}, Keep b₁₁ h' → Gl w h' := fun k => Gb₁₀ (kb₁₁.trans k)
  have hL11 := hL10.keeps kb₁₁
  have hN11 := hN.keeps kb₁₁
  have hC11 := hC10.keeps kb₁₁
  have hZ11 := lk hZ10 kb₁₁
  refine q_cutA (fun s' => ∃ h' t' xi xk, s' = sh s h' t' ∧ St b₁₁ env h' (lawFr (some (.ref a)) (some (.ref T)) (some (.ref M)) (some (.ref U))) (lawLed c0 os (some (.ref C)) (xi) (xk) (some (.ref L)) (some (.ref W)) (some (.ref Z)) (some (.ref V)) (some (.ref N)))) (fun Q' hQ => ?_) ?_
  · refine q_forRange (h₀ := b₁₁) (a := 0) (b := 5) 5 R'.hd (by decide) (by decide) (fun j fr nw => ∃ xi xk, fr = (lawFr (some (.ref a)) (some (.ref T)) (some (.ref M)) (some (.ref U))) ∧ nw = (lawLed c0 os (some (.ref C)) (xi) (xk) (some (.ref L)) (some (.ref W)) (some (.ref Z)) (some (.ref V)) (some (.ref N)))) ?_ ?_ ?_
    · refine wpAny_Call_NameR (q_range (Gb₁₁ S₁₁.keep) S₁₁ e (PyProof.Rows.callWith_type1 (args_cons (q_cint fun _ _ => args_nil (q_crange1 fun r h₂ t₂ a' b' c' k₂ _ hr => ⟨r, h₂, t₂, _, _, a', b', c', rfl, rfl, hr, S₁₁.keeps k₂, none, none, rfl, rfl⟩)))))
    · rintro i u b₁ h₂ fr nw t₂ hi ⟨xi, xk, rfl, rfl⟩ k₁ S₂
      have e0 : (0 : Int) + (i : Int) = (((⟨i, hi⟩ : Fin 5).val : Nat) : Int) := by show 0 + (i : Int) = (i : Int); omega
      rw [e0]
      generalize (⟨i, hi⟩ : Fin 5) = ii
      refine wpAny_assign_Name (q_stc S₂ (e.kd _ _ rfl (by decide)) (by rw [e.ce]; rfl) (o := os 1) (v₀ := xi) (by walk_at "mem") (nw' := (lawLed c0 os (some (.ref C)) (some (.int (ii.val : Int) u)) (xk) (some (.ref L)) (some (.ref W)) (some (.ref Z)) (some (.ref V)) (some (.ref N)))) (by walk_at "turn") fun h₃ S₃ _ => ?_)
      refine wpAny_execs_cons (q_forRange (h₀ := b₁) (a := 0) (b := 5) 5 R'.hd (by decide) (by decide) (fun j fr nw => ∃ xk, fr = (lawFr (some (.ref a)) (some (.ref T)) (some (.ref M)) (some (.ref U))) ∧ nw = (lawLed c0 os (some (.ref C)) (some (.int (ii.val : Int) u)) (xk) (some (.ref L)) (some (.ref W)) (some (.ref Z)) (some (.ref V)) (some (.ref N)))) ?_ ?_ ?_)
      · refine wpAny_Call_NameR (q_range (Gb₁₁ (k₁.trans S₃.keep)) S₃ e (PyProof.Rows.callWith_type1 (args_cons (q_cint fun _ _ => args_nil (q_crange1 fun r h₂ t₂ a' b' c' k₂ _ hr => ⟨r, h₂, t₂, _, _, a', b', c', rfl, rfl, hr, S₃.keeps k₂, xk, rfl, rfl⟩)))))
      · rintro k uk b₂ h₄ fr nw t₄ hk ⟨xk, rfl, rfl⟩ k₂ S₄
        have e1 : (0 : Int) + (k : Int) = (((⟨k, hk⟩ : Fin 5).val : Nat) : Int) := by show 0 + (k : Int) = (k : Int); omega
        rw [e1]
        generalize (⟨k, hk⟩ : Fin 5) = kk'
        refine wpAny_assign_Name (q_stc S₄ (e.kd _ _ rfl (by decide)) (by rw [e.ce]; rfl) (o := os 2) (v₀ := xk) (by walk_at "mem") (nw' := (lawLed c0 os (some (.ref C)) (some (.int (ii.val : Int) u)) (some (.int (kk'.val : Int) uk)) (some (.ref L)) (some (.ref W)) (some (.ref Z)) (some (.ref V)) (some (.ref N)))) (by walk_at "turn") fun h₅ S₅ _ => ?_)
        have k12 := (k₁.trans k₂).trans S₅.keep
        have hN5 := hN11.keeps k12
        have hL5' := hL11.keeps k12
        have ci : h₅.IsCell (1 + c0) (some (.int (ii.val : Int) u)) := ⟨_, S₅.get (by walk_at "mem"), rfl⟩
        have ck : h₅.IsCell (2 + c0) (some (.int (kk'.val : Int) uk)) := ⟨_, S₅.get (by walk_at "mem"), rfl⟩
        have cL : h₅.IsCell (3 + c0) (some (.ref L)) := ⟨_, S₅.get (by walk_at "mem"), rfl⟩
        have cN : h₅.IsCell (7 + c0) (some (.ref N)) := ⟨_, S₅.get (by walk_at "mem"), rfl⟩
        refine q_cutA (fun s' => ∃ h' t', s' = sh s h' t' ∧ St b₂ env h' (lawFr (some (.ref a)) (some (.ref T)) (some (.ref M)) (some (.ref U))) (lawLed c0 os (some (.ref C)) (some (.int (ii.val : Int) u)) (some (.int (kk'.val : Int) uk)) (some (.ref L)) (some (.ref W)) (some (.ref Z)) (some (.ref V)) (some (.ref N)))) (fun Q' hQ => ?_) ?_
        · refine q_if (q_allTrue2 (wpAny_isTrue_value (q_mat hN5 (fun _ q => q_ldc S₅ e (.inr rfl) rfl cN q) (fun _ q => q_ldc S₅ e (.inr rfl) rfl ci q) (fun _ q => q_ldc S₅ e (.inr rfl) rfl ck q) (wpAny_truthy_bool ⟨fun h1 => ?_, fun h1 => ⟨fun z => (by cases z), fun _ => wpAny_execs_nil (hQ _ ⟨_, _, rfl, S₅⟩)⟩⟩))))
          refine wpAny_isTrue_Not (wpAny_isTrue_value (q_mat hL5' (fun _ q => q_ldc S₅ e (.inr rfl) rfl cL q) (fun _ q => q_ldc S₅ e (.inr rfl) rfl ci q) (fun _ q => q_ldc S₅ e (.inr rfl) rfl ck q) (wpAny_truthy_bool ⟨fun h2 => ?_, fun h2 => wpAny_execs_nil (hQ _ ⟨_, _, rfl, S₅⟩)⟩)))
          have h2' : Lf ii kk' = false := by simpa using h2
          refine wpAny_execs_cons (q_if (wpAny_isTrue_Compare1 (q_one (fun i k => Vf i k && nearF Lf i k) (fun c d => (c == ii || Lf c ii) && (d == kk' || Lf kk' d)) _ R'.hd S₅ e (hU.keeps k12) (by decide +kernel) (by decide +kernel) (by decide) rfl rfl (fun _ q => q_ld S₅ (by walk_at "has") q) ?_ ?_)))
          · intro c d b₃ h' cenv t' uc ud nw' e' k₃ S'
            have kall := k₃.trans S'.keep
            exact one_test S' e' rfl rfl rfl rfl rfl rfl (ci.keeps kall) (ck.keeps kall) (cL.keeps kall) (hL5'.keeps kall)
          · intro D h' t' vs ep k₃ hD hvl hne
            refine List_ (args_nil (q_newList (S₅.keeps k₃) (by simp) fun L2 h'' S'' k₄ _ => q_eqEmpty (by have := R'.un; omega) (isList_of (k₄ _ _ hD)) (isList_of (S''.get (by walk_at "mem"))) (hne ?_) (wpAny_truthy_bool ⟨fun z => (by cases z), fun _ => wpAny_execs_nil (wpAny_execs_nil (hQ _ ⟨_, _, rfl, S''.drop1⟩))⟩)))
            obtain ⟨c, d, q1, q2, q3, q4⟩ := hnear ii kk' h1 h2'
            refine ⟨c, d, by rw [q1, q2]; rfl, ?_⟩
            have a1 : (c == ii || Lf c ii) = true := by
              rcases q3 with rfl | q3
              · rw [beq_self_eq_true, Bool.true_or]
              · rw [q3, Bool.or_true]
            have a2 : (d == kk' || Lf kk' d) = true := by
              rcases q4 with rfl | q4
              · rw [beq_self_eq_true, Bool.true_or]
              · rw [q4, Bool.or_true]
            rw [a1, a2]; rfl
        · rintro _ ⟨h₆, t₆, rfl, S₆⟩
          exact wpAny_execs_nil ⟨h₆, _, _, t₆, rfl, S₆, _, rfl, rfl⟩
      · rintro h₄ _ _ t₄ ⟨xk, rfl, rfl⟩ S₄
        exact wpAny_execs_nil ⟨h₄, _, _, t₄, rfl, S₄, _, _, rfl, rfl⟩
    · rintro h₂ _ _ t₂ ⟨xi, xk, rfl, rfl⟩ S₂
      exact hQ _ ⟨h₂, t₂, xi, xk, rfl, S₂⟩
  rintro _ ⟨h₁₂, t₁₂, xi, xk, rfl, S₁₂⟩
  clear S₁₁
  have cN : h₁₂.IsCell (7 + c0) (some (.ref N)) := ⟨_, S₁₂.get (by walk_at "mem"), rfl⟩
  have cC : h₁₂.IsCell (0 + c0) (some (.ref C)) := ⟨_, S₁₂.get (by walk_at "mem"), rfl⟩
  have cZ : h₁₂.IsCell (5 + c0) (some (.ref Z)) := ⟨_, S₁₂.get (by walk_at "mem"), rfl⟩
  refine wpAny_execs_cons (wpAny_Return_some (wpAny_Compare1 (q_ldc S₁₂ e (.inr rfl) rfl cN (q_matC Vf _ _ R'.hd S₁₂ e (Gb₁₁ S₁₂.keep) rfl rfl (by decide +kernel) rfl (fun _ _ => rfl) (fun _ => rfl) rfl rfl (by decide +kernel) rfl (by decide) (fun _ => rfl) (fun _ => rfl) ?_ ?_))))
  · intro i k c b₁ h' cenv t' ui uk e' k₁ ci S'
    have kall := k₁.trans S'.keep
    have G' := Gb₁₁ (S₁₂.keep.trans kall)
    refine q_abs fun Q2 hQ2 => ?_
    obtain ⟨r, hr, hrr⟩ := hC11.keeps (S₁₂.keep.trans kall)
    obtain ⟨vi, li, ii⟩ := hrr i
    obtain ⟨vk, lk', ik⟩ := hrr k
    have hi5 := i.isLt
    have hk5 := k.isLt
    refine q_fn G' S' e' (g_below _) (keep_below _) (args_cons (Subscript_ (q_ldc S' e' (.inl rfl) rfl (cC.keeps kall) (q_ldc S' e' (.inl rfl) rfl (ci.keeps S'.keep) (q_item hr (by omega) (by omega) (ofFn_at _ i) ?_)))))
    refine args_cons (Subscript_ (q_ldc S' e' (.inl rfl) rfl (cC.keeps kall) (q_ld S' (by walk_at "has") (q_item hr (by omega) (by omega) (ofFn_at _ k) ?_))))
    refine args_cons (q_ldc S' e' (.inl rfl) rfl (cZ.keeps kall) (args_nil ⟨G'.kx, ?_⟩))
    refine below_spec R'.less G' li ii lk' ik (lk hZ11 (S₁₂.keep.trans kall)) iZ (hcl i) (hcl k) szne (by omega) (fun z hz => ?_) fun h5 t5 k5 => ?_
    · have := inz z hz
      simp only [List.mem_cons, List.not_mem_nil, or_false] at this
      omega
    · rw [← hVf] at hQ2
      exact hQ2 _ _ ⟨h5, t5, rfl, rfl, k5⟩
  · intro Y h' t' k' hm
    have hY : Mat h' Y Vf := hm.mat fun _ _ _ x => x
    exact q_eqMat (by have := R'.un; omega) (hN11.keeps (S₁₂.keep.trans k')) hY (kk _ _ (((((kb.trans kb₃).trans kb₄).trans kb₅).trans kb₆).trans (((((kb₈.trans kb₉).trans kb₁₀).trans kb₁₁).trans S₁₂.keep).trans k')))
end
end
section
open PySem PySem.W PySem.Spec PySem.Calls PyProof.Rows
set_option maxRecDepth 100000
set_option maxHeartbeats 1000000
theorem g_law (P : Params) : nsFind (globE P) (Str.ofString "law") = some (.ref 165) := by rfl
theorem ns_same {h : Heap} {a : Addr} {m m' : Str → Option Value} (x : h.Ns a m) (y : h.Ns a m') (n : Str) : m n = m' n := by
  obtain ⟨o, es, ep, ho, hd, _, hm⟩ := x
  obtain ⟨o', es', ep', ho', hd', _, hm'⟩ := y
  rw [ho] at ho'
  cases ho'
  rw [hd] at hd'
  cases hd'
  rw [← hm, ← hm']
theorem holds : PySem.Challenge.rw_qj0005_01.Holds := hd (by
  intro w s₀ s₁ mg mb G Y fa o pm cd doc dV kV ho hd hcd hD hmg hg args vals as hpre hlay hrd hwl hlo
  have KX := kIn_of Y
  refine Ground.open G ?_
  intro T B D TE TW
  have GL : Gl w s₁.heap := ⟨KX, ⟨mb, T.b, by
    have bb := fun x hx => T.builtins x hx
    refine ⟨(bb "len" (by decide)).trans (by decide +kernel), (bb "range" (by decide)).trans (by decide +kernel), (bb "max" (by decide)).trans (by decide +kernel), (bb "tuple" (by decide)).trans (by decide +kernel), (bb "reversed" (by decide)).trans (by decide +kernel)⟩⟩, T.nolimit⟩
  have hfa : fa = 165 := by
    have e := ns_same T.g GL.glob (Str.ofString "law")
    rw [g_law] at e
    have e' : mg (Str.ofString "law") = some (.ref fa) := hmg
    rw [e] at e'
    injection e' with e'
    injection e' with e'
    exact e'.symm
  subst hfa
  wrow_args hpre hlay hrd hwl hlo
  rename_i hI hlen _
  refine enter_call ?_
  refine codeAny_mono ?_ (fun _ _ g => GoodW.toG g)
  refine law_code (s := s₁) (h := s₁.heap) (t := s₁.toks) ⟨rfl, by decide +kernel, by decide +kernel⟩ GL (by assumption) (by assumption) (by omega) fun h' t' k => ?_
  exact ⟨.inl ⟨_, .bool true, [], rfl, raisesW_false (by wrow_none_raised), .bool true, by wrow_post, unshared_nil⟩, k, rfl, hg⟩)
end
end
end Mine
set_option maxRecDepth 100000 in
set_option maxHeartbeats 8000000 in
theorem PySem.Challenge.cw_qj0005_01_holds : PySem.Challenge.rw_qj0005_01.Holds := by
  exact Mine.holds
