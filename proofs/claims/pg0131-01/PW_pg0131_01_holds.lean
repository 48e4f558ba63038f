import PyProof.Rows.All

import Wide.All

import OpenK.AllK

import Wide.FinOn

import Lean

import PySem.Challenge.RW_pg0131_01

set_option Elab.async false

section
open PySem PySem.W PyProof.Rows
namespace Mine
set_option maxRecDepth 100000 in
set_option maxHeartbeats 8000000 in
open_top hd for PySem.Challenge.rw_pg0131_01
end Mine
end

section
open PySem PySem.W PyProof.Rows
namespace Mine

section seg
variable {prog : Program} {w : World} {A : Around} {R : GenEnd} {Y : Protocol} {n : Nat} {s₀ : Shared} {c : Code} {fs : List Frame} {s : Shared} {env : Env}
  {K : Flow → Sem Fin} {H : Value → Sem Fin} {gd : Bool → Bool} {lv : List Value → List Value}

theorem seg_If {test : Expr} {body orelse : List Stmt} {pos : Pos}
    (h : wpAny (model prog w) (A.over c fs) (isTrue test env (eval test env)) (fun b s' =>
       if b = true then Seg (model prog w) A R Y n s₀ c ((execs body env).wrap K H gd lv) fs s' else Seg (model prog w) A R Y n s₀ c ((execs orelse env).wrap K H gd lv) fs s')
      (fun x s' => Seg (model prog w) A R Y n s₀ c (H x) fs s') s) :
    Seg (model prog w) A R Y n s₀ c ((exec (.If test body orelse pos) env).wrap K H gd lv) fs s := by
  rw [exec_If]
  refine seg_bind_wrap (wpAny_standAt (seg_bind_wrap (wpAny_mono h (fun b s' hb => ?_) fun _ _ x => x)))
  cases b
  · simpa using hb
  · simpa using hb

theorem seg_For {target iter : Expr} {body orelse : List Stmt} {pos : Pos} (hgd : gd false = false)
    (h : wpAny (model prog w) (A.over c fs) (eval iter env) (fun x s₁ => wpAny (model prog w) (A.over c fs) (pyIter x) (fun it s₂ =>
        ∀ k l p, (∀ f, k (.ok f) = K f) → Seg (model prog w) A R Y n s₀ (.forLoop target it body orelse env) ((model prog w).den (.forLoop target it body orelse env)) (.ret k none false l c p [] :: fs) s₂)
        (fun x s' => Seg (model prog w) A R Y n s₀ c (H x) fs s') s₁) (fun x s' => Seg (model prog w) A R Y n s₀ c (H x) fs s') s)
    (hs : ∀ x, foldedSetIterable iter env x = pure x := by intro _; rfl) :
    Seg (model prog w) A R Y n s₀ c ((exec (.For target iter body orelse pos) env).wrap K H gd lv) fs s := by
  rw [exec_For]
  refine seg_bind_wrap (wpAny_standAt (seg_bind_wrap (wpAny_mono h (fun x s₁ h₁ => ?_) fun _ _ x => x)))
  refine seg_bind_wrap (wpAny_of_eq (hs x) (seg_bind_wrap (wpAny_standAt (seg_bind_wrap (wpAny_holding (wpAny_mono h₁ (fun it s₂ h₂ => ?_) fun _ _ x => x))))))
  show Seg _ A R Y n s₀ c (.call (.forLoop target it body orelse env) none (gd false) (lv []) _) fs s₂
  refine seg_call fun p => ?_
  rw [hgd]
  exact h₂ _ _ p fun f => rfl

abbrev forK (C : Code) : Flow → Sem Fin := fun f => match f with
  | .next | .cont => .pure (.again C)
  | .brk => .pure (.done .next)
  | .ret v => .pure (.done (.ret v))

theorem seg_forLoop {target : Expr} {it : Value} {body orelse : List Stmt}
    (h : wpAny (model prog w) (A.over (.forLoop target it body orelse env) fs) (pyNext it) (fun r s' => match r with
      | none => Seg (model prog w) A R Y n s₀ (.forLoop target it body orelse env) (.pure (.again (.block orelse env))) fs s'
      | some v => wpAny (model prog w) (A.over (.forLoop target it body orelse env) fs) (letOwnedTupleGo target it v) (fun _ s₁ =>
          wpAny (model prog w) (A.over (.forLoop target it body orelse env) fs) (assign target env v) (fun _ s₂ =>
            ∀ H', Seg (model prog w) A R Y n s₀ (.forLoop target it body orelse env) ((execs body env).wrap (forK (.forLoop target it body orelse env)) H' id id) fs s₂) (fun _ _ => False) s₁) (fun _ _ => False) s') (fun _ _ => False) s) :
    Seg (model prog w) A R Y n s₀ (.forLoop target it body orelse env) ((model prog w).den (.forLoop target it body orelse env)) fs s := by
  show Seg _ A R Y n s₀ _ ((forTurn target it body orelse env).onRaise (fun x => do noteFrame x env; theTreesLotGoes x)) fs s
  unfold forTurn
  rw [Sem.onRaise_eq_wrap]
  refine seg_bind_wrap (wpAny_standAt (seg_bind_wrap (wpAny_onRaise (wpAny_mono h (fun r s' hr => ?_) fun _ _ x => x.elim))))
  cases r with
  | none => exact hr
  | some v =>
    refine seg_bind_wrap (wpAny_mono hr (fun _ s₁ h₁ => ?_) fun _ _ x => x.elim)
    refine seg_bind_wrap (wpAny_mono h₁ (fun _ s₂ h₂ => ?_) fun _ _ x => x.elim)
    rw [Sem.bind_eq_wrap', Sem.wrap_wrap]
    rw [Sem.wrap_congr (execs body env) _ _ (K' := forK (.forLoop target it body orelse env)) (fun f => by cases f <;> rfl) (fun e => rfl)]
    exact h₂ _
end seg

section next
variable {prog : Program} {w : World} {A : Around} {E : Value → Shared → Prop} {s : Shared}
theorem pyNext_gen {a : Addr} {g n : Nat} {gs : GenState} {P : Nat → Shared → Shared → Prop} {Y : Protocol} {Q : Option Value → Shared → Prop} (hh : A.handled = none)
    (hl : s.heap.NoLimit) (hroom : A.depth < recursionLimit)
    (hg : s.heap.IsGen a g) (hgs : s.gens[g]? = some gs)
    (hgo : gs.Goes (model prog w) A.in1 (fun n s₀ r s₁ => r = .ok (.ret .none) ∧ P n s₀ s₁) Y n (.send .none) (s.setGen g .running))
    (hY : ∀ v s₁ gs', gs'.bare = true → Y (n - 1) (s.setGen g .running) v s₁ (fun r' s'' => match n with
        | 0 => False
        | m + 1 => gs'.Goes (model prog w) A.in1 (fun n s₀ r s₁ => r = .ok (.ret .none) ∧ P n s₀ s₁) Y m r' s'') → Q (some v) (s₁.setGen g gs'))
    (hP : ∀ s₁, P n (s.setGen g .running) s₁ → ∀ h', (∀ b o, s₁.heap.get? b = some o → h'.get? b = some o) → Q none { s₁.setGen g .finished with heap := h' }) :
    wpAny (model prog w) A (pyNext (.ref a)) Q E s := by
  unfold pyNext
  refine wpAny_bind (wpAny_attempt (wpAny_callSpecial?_slot (name := Str.ofString "__next__") hg.typeIs slot_gen_next
    (wpAny_call_entry slot_gen_next hg.typeIs entry_gen_next ?_ (args_gen_next _))))
  show wpAny _ _ (Builtin.Generator.genWake (.ref a) (.send .none)) _ _ s
  unfold Builtin.Generator.genWake
  refine wpAny_bind (wpAny_holding (wpAny_genNumber hg (wpAny_bind (wpAny_genState hgs ?_))))
  cases gs with
  | running => exact hgo.elim
  | finished => exact hgo.elim
  | _ =>
    refine wpAny_bind (wpAny_roomToWake hl hroom ?_)
    show wpAny _ _ (.resume g (.send .none) [] _) _ _ s
    refine wpAny_resumeQ hgs hgo (fun x s₁ hx => ?_) (fun v s₁ gs' hb hv => ?_)
    · obtain ⟨rfl, hp⟩ := hx
      show wpAny _ _ (newExc (.type "StopIteration") [] >>= _) _ _ _
      refine wpAny_bind ?_
      simp only [newExc, newTuple]
      refine wpAny_bind (wpAny_newObj_type ?_ (by size_fits))
      refine wpAny_bind (m := firstArgMember _ _) (wpAny_of_eq (a := Value.none) (by first | rfl | (simp only [firstArgMember]; rfl)) ?_)
      refine wpAny_newObj_type ?_ (by size_fits)
      simp only [raiseNew]
      refine wpAny_bind (wpAny_bind (wpAny_handled ?_))
      rw [show A.in1.handled = none from hh]
      refine wpAny_throw ?_
      refine wpAny_bind (wpAny_isInstance (T := "StopIteration") (b := true) ⟨_, Heap.get?_push_size _ rfl, rfl⟩ isSubtype_stop ?_)
      exact wpAny_pure (hP s₁ hp _ fun b o hb => Heap.get?_push_of_some _ (Heap.get?_push_of_some _ hb))
    · exact wpAny_pure ⟨v, rfl, wpAny_pure (hY v s₁ gs' hb hv)⟩
end next
end Mine
end

section
open PySem PySem.W PyProof.Rows PySem.Calls
namespace Mine

abbrev pr : Program := PySem.Challenge.pw_pg0131_01
noncomputable abbrev KH (P : Params) : Frag := hd.heap_39 P

/-- what stands behind the top, at a heap -/
structure Wd (w : World) (mg mb : Str → Option Value) (h : Heap) : Prop where
  K : (KH w.params).In h
  g : h.Ns mainGlobals mg
  b : h.Ns builtinsNs mb
  bb : ∀ x : Str, x ≠ "__name__" → mb x = bootBuiltins x
  lim : h.NoLimit

theorem Wd.keeps {w : World} {mg mb : Str → Option Value} {h h' : Heap} (W : Wd w mg mb h) (k : ∀ b o, h.get? b = some o → h'.get? b = some o) : Wd w mg mb h' :=
  ⟨W.K.keeps k, W.g.keeps k, W.b.keeps k, W.bb, W.lim.keeps k⟩

/-- what the walk over escaped signs yields: from the sign at place i on, e: a backslash is open -/
def escItems : List Nat → Nat → Bool → List (Nat × Str)
  | [], i, true => [(i - 1, ⟨#[92]⟩)]
  | [], _, false => []
  | c :: cs, i, true => (i, ⟨#[92, c]⟩) :: escItems cs (i + 1) false
  | c :: cs, i, false => if c = 92 then escItems cs (i + 1) true else (i, ⟨#[c]⟩) :: escItems cs (i + 1) false

/-- below the generator's frame, and the generator itself -/
abbrev Lw (L b : Addr) : Prop := b < L ∨ b = L + 1
theorem Lw.ne {L b : Addr} (h : Lw L b) : b ≠ L := by
  rcases h with h | h
  · exact Nat.ne_of_lt h
  · exact h ▸ Nat.succ_ne_self L
theorem Lw.off {L b it : Addr} (h : Lw L b) (hL : L + 1 < it) : b ∉ [it + 1, it] := by
  intro hm
  have hb : b ≤ L + 1 := by rcases h with h | h; exact Nat.le_succ_of_le (Nat.le_of_lt h); exact Nat.le_of_eq h
  rcases List.mem_cons.mp hm with e | e
  · rw [e] at hb; exact absurd (Nat.lt_of_lt_of_le (Nat.lt_succ_of_lt hL) hb) (Nat.lt_irrefl _)
  · rw [List.mem_singleton.mp e] at hb; exact absurd (Nat.lt_of_lt_of_le hL hb) (Nat.lt_irrefl _)
/-- below L all stands -/
def Low (L : Addr) (s₀ s : Shared) : Prop :=
  ∃ h' tk, s = { s₀ with heap := h', toks := tk } ∧ ∀ b o, Lw L b → s₀.heap.get? b = some o → h'.get? b = some o
theorem Low.refl (L : Addr) (s : Shared) : Low L s s := ⟨s.heap, s.toks, rfl, fun _ _ _ e => e⟩
theorem Low.step {L : Addr} {s₀ s : Shared} (x : Low L s₀ s) {h' : Heap} {tk : Nat} (hk : ∀ b o, Lw L b → s.heap.get? b = some o → h'.get? b = some o) :
    Low L s₀ { s with heap := h', toks := tk } := by
  obtain ⟨h₁, tk₁, rfl, hk₁⟩ := x
  exact ⟨h', tk, rfl, fun b o hL e => hk b o hL (hk₁ b o hL e)⟩
/-- from L on all stands -/
def High (L : Addr) (s s'' : Shared) : Prop := ∀ b o, L ≤ b → s.heap.get? b = some o → s''.heap.get? b = some o

def escProto (L : Addr) (T : List (Nat × Str)) : Protocol := fun m s₀ v s kap =>
  (∃ i x tup t u, T[T.length - 1 - m]? = some (i, x) ∧ v = .ref tup ∧ L ≤ tup ∧ s.heap.IsTuple tup #[.int i t, .str x u]) ∧ Low L s₀ s ∧
    ∀ s'' : Shared, High L s s'' → kap (.send .none) s''
def escEnd (L : Addr) : GenEnd := fun n s₀ r s₁ => r = .ok (.ret .none) ∧ (n = 0 ∧ Low L s₀ s₁)

theorem off2 {L it b : Nat} (h : L < it) (hb : b ≤ L) : b ∉ [it + 1, it] := by simp; omega

theorem over1 {A : Around} {c c' : Code} {k : Result → Sem Fin} {g : Bool} {l kp : List Value} {p : Pos} (h : A.handled = none) : (A.over c [.ret k none g l c' p kp]).handled = none := h

theorem item_at {α : Type} {T pre rem : List α} {a : α} (hT : T = pre ++ a :: rem) : T[T.length - 1 - rem.length]? = some a := by
  subst hT
  have : (pre ++ a :: rem).length - 1 - rem.length = pre.length := by simp
  rw [this]; simp

/-- between two turns of the generator's loop -/
def GInv (L it : Addr) (x : Str) (t : Tok) (T : List (Nat × Str)) (i : Nat) (e : Bool) (s₀ s : Shared) : Prop :=
  i ≤ x.cps.size ∧ ((∃ old, IsEnum s.heap (it + 1) it i old) ∧ s.heap.IsStrIter it (strIterType x) x t i) ∧
    (∃ m, s.heap.Ns L m ∧ m (Str.ofString "escape") = some (.bool e) ∧ (0 < i → ∃ tp, m (Str.ofString "pos") = some (.int ((i - 1 : Nat) : Int) tp))) ∧ Low L s₀ s ∧
    (∃ pre, T = pre ++ escItems (x.cps.toList.drop i) i e) ∧ (e = true → 0 < i)

theorem bs_ne {c : Nat} (h : c ≠ 92) : ((⟨#[c]⟩ : Str) == Str.ofString "\\") = false := by
  apply beq_eq_false_iff_ne.mpr
  intro e
  have := congrArg (fun z : Str => z.cps[0]?) e
  exact h (Option.some.inj (this.trans (by decide +kernel : (Str.ofString "\\").cps[0]? = some 92)))
theorem bs_eq : ((⟨#[92]⟩ : Str) == Str.ofString "\\") = true := by decide +kernel

theorem get_push {h : Heap} {a : Addr} {o : Obj} (hz : h.objs.size = a) (hf : o.isFreed = false) : (h.push o).get? a = some o := by
  subst hz
  exact Heap.get?_push_size _ hf

theorem isGen_push {h : Heap} {a : Addr} {g : Nat} {nm qn : Value} (hz : h.objs.size = a) :
    (h.push { cls := .type "generator", data := .fields #[.int g 0, nm, qn] }).IsGen a g := by
  subst hz
  exact ⟨_, _, _, Heap.get?_push_size _ rfl, rfl, rfl, rfl⟩

theorem drawsStr {prog : Program} {w : World} {A : Around} (hh : A.handled = none) (it : Addr) (x : Str) (t : Tok) :
    Draws prog w A it [it] x.cps.size (fun i v => ∃ c u, x.cps[i]? = some c ∧ v = .str ⟨#[c]⟩ u) (fun i h => h.IsStrIter it (strIterType x) x t i) := by
  unfold strIterType
  split
  · exact Draws.strAscii hh it x t
  · exact Draws.strWide hh it x t

theorem seg_turns {M : Model} {A : Around} {R : GenEnd} {Y : Protocol} {C : Code} {fs : List Frame} (I : Nat → Bool → Shared → Shared → Prop) (cnt : Nat → Bool → Nat) (N : Nat)
    (step : ∀ i e s₀ s, I i e s₀ s → (i < N → ∀ e' s₀' s', I (i + 1) e' s₀' s' → Seg M A R Y (cnt (i + 1) e') s₀' C (M.den C) fs s') → Seg M A R Y (cnt i e) s₀ C (M.den C) fs s) :
    ∀ i e s₀ s, I i e s₀ s → Seg M A R Y (cnt i e) s₀ C (M.den C) fs s := by
  have key : ∀ k i e s₀ s, N - i = k → I i e s₀ s → Seg M A R Y (cnt i e) s₀ C (M.den C) fs s := by
    intro k
    induction k with
    | zero => intro i e s₀ s hk hI; exact step i e s₀ s hI fun hlt => absurd hlt (by omega)
    | succ k ih => intro i e s₀ s hk hI; exact step i e s₀ s hI fun hlt e' s₀' s' hI' => ih (i + 1) e' s₀' s' (by omega) hI'
  intro i e s₀ s hI
  exact key _ i e s₀ s rfl hI

section
variable {w : World} {mg mb : Str → Option Value} {A : Around} {s : Shared}

set_option maxRecDepth 20000 in
set_option maxHeartbeats 1000000 in
theorem esc_call {E : Value → Shared → Prop} {x : Str} {t : Tok} {Q : Value → Shared → Prop} (W : Wd w mg mb s.heap) (hroom : A.depth < recursionLimit)
    (hQ : ∀ h' tk c, (∀ b o, s.heap.get? b = some o → h'.get? b = some o) → h'.IsGen (s.heap.objs.size + 1) s.gens.size →
      (∀ (A₁ : Around) (s₀ : Shared), A₁.handled = none → (∀ b o, s.heap.objs.size ≤ b → h'.get? b = some o → s₀.heap.get? b = some o) → Wd w mg mb s₀.heap →
        Seg (model pr w) A₁ (escEnd s.heap.objs.size) (escProto s.heap.objs.size (escItems x.cps.toList 0 false)) (escItems x.cps.toList 0 false).length s₀ c ((model pr w).den c) [] s₀) →
      Q (.ref (s.heap.objs.size + 1)) { s with heap := h', gens := s.gens.push (.fresh c), toks := tk }) :
    wpAny (model pr w) A (call (.ref 21) [.str x t]) Q E s := by
  have ho := W.K 21 _ rfl
  have hcd : s.heap.CodeRec (.ref 20) (Str.ofString "_iter_escaped_chars") := ⟨20, _, _, _, rfl, W.K 20 _ rfl, rfl, rfl⟩
  refine wpAny_call (codeAny_call_generator hroom ho rfl rfl rfl rfl hcd ?_)
  refine wpAny_of_eq (a := [(Str.ofString "addr", .str x t)]) rfl ?_
  refine wpAny_newFunctionEnv (by decide) (locs rfl) (fun h₁ hn₁ hs₁ => ⟨W.lim.fresh _ hs₁, ?_⟩) rfl
  have hz : h₁.objs.size = s.heap.objs.size + 1 := by rw [hs₁.1, Heap.size_push]
  have old : ∀ b o, s.heap.get? b = some o → h₁.get? b = some o := fun b o e => hs₁.extBut b o (Nat.ne_of_lt (Heap.lt_size e)) (Heap.get?_push_of_some _ e)
  dsimp only
  rw [hz]
  refine hQ _ _ _ (fun b o e => Heap.get?_push_of_some _ (old b o e)) ?_ ?_
  · exact isGen_push hz
  · intro A₁ s₀ hh₁ hk W₀
    have hn0 : s₀.heap.Ns s.heap.objs.size _ := hn₁.at' fun o e => hk _ o (Nat.le_refl _) (Heap.get?_push_of_some _ e)
    have hgen : s.heap.objs.size + 1 < s₀.heap.objs.size := by
      exact Heap.lt_size (hk _ _ (Nat.le_succ _) (get_push hz rfl))
    have hLg : mainGlobals < s.heap.objs.size := W.g.lt
    have hLb : builtinsNs < s.heap.objs.size := W.b.lt
    clear hk hQ ho hcd hs₁ old hz hroom hn₁
    generalize s.heap.objs.size = L at *
    have hmiss : mg (Str.ofString "enumerate") = none := mg_none_of W₀.K W₀.g (by with_unfolding_all rfl)
    have hbl : mb (Str.ofString "enumerate") = some (.type "enumerate") := (W₀.bb _ (by decide)).trans boot_enumerate
    generalize hTT : escItems x.cps.toList 0 false = T
    refine seg_func ?_
    refine seg_execs_cons (seg_wrap (wpAny_Assign_Name (wpAny_Constant_int (wpAny_storeName_local rfl hn0 (fun h₂ hn₂ hs₂ => ?_) rfl))))
    dsimp only at hn₂ hs₂ ⊢
    refine seg_execs_cons (seg_wrap (wpAny_Assign_Name (wpAny_Constant_bool (wpAny_storeName_local rfl hn₂ (fun h₃ hn₃ hs₃ => ?_) rfl))))
    dsimp only at hn₃ hs₃ ⊢
    have k3 : ∀ b o, b ≠ L → s₀.heap.get? b = some o → h₃.get? b = some o := fun b o hb e => hs₃.extBut b o hb (hs₂.extBut b o hb e)
    refine seg_execs_cons (seg_For rfl (Call_ (Name_function_global rfl rfl (loadGlobal_builtin (W₀.g.at' fun o e => k3 _ o (Nat.ne_of_lt hLg) e) hmiss (W₀.b.at' fun o e => k3 _ o (Nat.ne_of_lt hLb) e) hbl ?_))))
    refine PyProof.Rows.callWith_type1 (args_cons (wpAny_Name (wpAny_loadName_local rfl rfl hn₃ rfl (args_nil ?_))))
    refine call_enumerate_str fun h₄ he hit hz₄ hk₄ => ?_
    refine wpAny_pyIter_enum he fun k l p hkk => ?_
    have hLit : L < h₃.objs.size := hn₃.lt
    have hLit2 : L + 1 < h₃.objs.size := by rw [hs₃.1, hs₂.1]; exact hgen
    dsimp only at he hit hz₄ hk₄
    generalize h₃.objs.size = it at *
    rw [show T.length = (escItems (x.cps.toList.drop 0) 0 false).length by rw [← hTT]; rfl]
    refine seg_turns (I := GInv L it x t T) (cnt := fun i e => (escItems (x.cps.toList.drop i) i e).length) x.cps.size ?_ 0 false _ _ ?_
    · rintro i e s₀' s' ⟨hi, hst, ⟨m, hm, hme, hmp⟩, hlow, ⟨pre, hT⟩, hei⟩ ih
      have WT : ∀ A' : Around, A'.handled = none → WalksT pr w A' (it + 1) [it + 1, it] [it + 1, it] x.cps.size _ _ _ := fun A' hA' =>
        WalksT.enumerateD (drawsStr (A := A'.in1) hA' it x t) (it + 1) (Nat.succ_ne_self it) (by simp) (by simp)
      have offL : L ∉ [it + 1, it] := off2 hLit (Nat.le_refl _)
      have off : ∀ b, Lw L b → b ∉ [it + 1, it] := fun b hb => hb.off hLit2
      refine seg_forLoop ?_
      by_cases hlt : i < x.cps.size
      · obtain ⟨c, hc⟩ : ∃ c, x.cps[i]? = some c := ⟨_, Array.getElem?_eq_getElem hlt⟩
        have hd : x.cps.toList.drop i = c :: x.cps.toList.drop (i + 1) := by
          have hlt' : i < x.cps.toList.length := by simpa using hlt
          rw [List.drop_eq_getElem_cons hlt']
          congr 1
          have : x.cps.toList[i]? = some c := by simpa using hc
          rw [List.getElem?_eq_getElem hlt'] at this
          exact Option.some.inj this
        refine (WT _ (over1 hh₁)).item i _ _ _ hlt hst fun tup vals h₅ tk₅ hPt hge hT₅ hMid hk₅ => ?_
        obtain ⟨t1, v1, ⟨c', u, hc', rfl⟩, rfl⟩ := hPt
        obtain rfl : c' = c := by rw [hc] at hc'; exact (Option.some.inj hc').symm
        refine (WT _ (over1 hh₁)).go _ _ _ i tup _ _ _ hMid fun h₆ hst₆ hk₆ => ?_
        refine wpAny_assign_Tuple (over1 hh₁) (hT₅.at fun o e => hk₆ tup o ((WT A₁ hh₁).apart i tup h₅ hMid) e) rfl rfl fun h₇ hx₇ => ?_
        dsimp only at hx₇ hk₆ hk₅
        have hm₇ : h₇.Ns L m := hm.at' fun o e => hx₇ _ o (Nat.ne_of_lt (Heap.lt_size (hk₆ _ o offL (hk₅ _ o offL e)))) (hk₆ _ o offL (hk₅ _ o offL e))
        show wpAny _ _ (do holding [_] (assign (.Name _ _) _ _); do holding [] (assign (.Name _ _) _ _); pure ()) _ _ _
        refine wpAny_bind (wpAny_holding (wpAny_assign_Name (wpAny_storeName_local rfl hm₇ (fun h₈ hn₈ hs₈ => ?_) rfl)))
        dsimp only at hn₈ hs₈
        refine wpAny_bind (wpAny_holding (wpAny_assign_Name (wpAny_storeName_local rfl hn₈ (fun h₉ hn₉ hs₉ => wpAny_pure ?_) rfl)))
        dsimp only at hn₉ hs₉ ⊢
        intro H'
        have up9 : ∀ b o, b ≠ L → h₆.get? b = some o → h₉.get? b = some o := fun b o hb e => hs₉.extBut b o hb (hs₈.extBut b o hb (hx₇ b o (Nat.ne_of_lt (Heap.lt_size e)) e))
        have low9 : ∀ (h' : Heap) (tk : Nat), (∀ b o, h₉.get? b = some o → h'.get? b = some o) → Low L s₀' { s' with heap := h', toks := tk } := fun h' tk hk' =>
          hlow.step fun b o hb e => hk' b o (up9 b o hb.ne (hk₆ b o (off b hb) (hk₅ b o (off b hb) e)))
        have inv : ∀ e' s₀₂ (s₂ : Shared) m₂, s₂.heap.Ns L m₂ → m₂ (Str.ofString "escape") = some (.bool e') → (∃ tp, m₂ (Str.ofString "pos") = some (.int i tp)) →
            (∀ b o, L < b → h₉.get? b = some o → s₂.heap.get? b = some o) → Low L s₀₂ s₂ → (∃ pre, T = pre ++ escItems (x.cps.toList.drop (i + 1)) (i + 1) e') → GInv L it x t T (i + 1) e' s₀₂ s₂ := by
          intro e' s₀₂ s₂ m₂ q1 q2 q3 q4 q5 q6
          refine ⟨hlt, (WT A₁ hh₁).frame _ _ _ hst₆ fun b hb o e => ?_, ⟨m₂, q1, q2, fun _ => q3⟩, q5, q6, fun _ => Nat.succ_pos i⟩
          have hLb : L < b := by
            rcases List.mem_cons.mp hb with h | h
            · rw [h]; exact Nat.lt_succ_of_lt hLit
            · rw [List.mem_singleton.mp h]; exact hLit
          exact q4 b o hLb (up9 b o (Nat.ne_of_gt hLb) e)
        have hLs9 : L ≤ h₉.objs.size := Nat.le_of_lt hn₉.lt
        cases e with
        | true =>
          have hc1 : escItems (x.cps.toList.drop i) i true = (i, ⟨#[92, c']⟩) :: escItems (x.cps.toList.drop (i + 1)) (i + 1) false := by rw [hd]; rfl
          rw [hc1] at hT ⊢
          refine seg_execs_cons (seg_If (wpAny_isTrue_value (wpAny_Name (wpAny_loadName_local rfl rfl hn₉ hme (wpAny_truthy_bool ?_)))))
          rw [if_pos rfl]
          refine seg_execs_cons (seg_Expr_Yield rfl rfl rfl (wpAny_Tuple (wpAny_items_cons (wpAny_Name (wpAny_loadName_local rfl rfl hn₉ rfl
            (wpAny_items_cons (wpAny_BinOp (wpAny_Constant_str (wpAny_Name (wpAny_loadName_local rfl rfl hn₉ rfl (add_str (fun t' tk' => wpAny_items_nil ⟨by size_fits, fun kap hkap => ?_⟩) (by show 1 + 1 ≤ sizeLine; decide))))))))))))
          refine ⟨⟨i, ⟨#[92, c']⟩, h₉.objs.size, t1, t', item_at hT, rfl, hLs9, ⟨_, Heap.get?_push_size _ rfl, rfl, _, rfl⟩⟩, low9 _ _ fun b o e => Heap.get?_push_of_some _ e, fun s'' hh'' => hkap .none s'' ?_⟩
          have hn'' := hn₉.at' fun o e => hh'' L o (Nat.le_refl _) (Heap.get?_push_of_some _ e)
          refine seg_execs_cons (seg_wrap (wpAny_Assign_Name (wpAny_Constant_bool (wpAny_storeName_local rfl hn'' (fun h₁₀ hn₁₀ hs₁₀ => ?_) rfl))))
          refine seg_execs_nil (seg_execs_nil (seg_again rfl (ih hlt false s'' _ (inv _ _ _ _ hn₁₀ rfl ⟨t1, rfl⟩ (fun b o hb e => hs₁₀.extBut b o (Nat.ne_of_gt hb) (hh'' b o (Nat.le_of_lt hb) (Heap.get?_push_of_some _ e)))
            ((Low.refl L s'').step fun b o hb e => hs₁₀.extBut b o hb.ne e) ⟨pre ++ [_], by rw [List.append_assoc]; exact hT⟩))))
        | false =>
          refine seg_execs_cons (seg_If (wpAny_isTrue_value (wpAny_Name (wpAny_loadName_local rfl rfl hn₉ hme (wpAny_truthy_bool ?_)))))
          rw [if_neg Bool.false_ne_true]
          refine seg_execs_cons (seg_If (wpAny_isTrue_Compare1 (wpAny_Name (wpAny_loadName_local rfl rfl hn₉ rfl (wpAny_Constant_str (PyProof.Rows.eq_str (wpAny_truthy_bool ?_)))))))
          by_cases hcc : c' = 92
          · subst hcc
            have hc1 : escItems (x.cps.toList.drop i) i false = escItems (x.cps.toList.drop (i + 1)) (i + 1) true := by rw [hd]; rfl
            rw [hc1] at hT ⊢
            rw [bs_eq, if_pos rfl]
            refine seg_execs_cons (seg_wrap (wpAny_Assign_Name (wpAny_Constant_bool (wpAny_storeName_local rfl hn₉ (fun h₁₀ hn₁₀ hs₁₀ => ?_) rfl))))
            refine seg_execs_nil (seg_execs_nil (seg_execs_nil (seg_again rfl (ih hlt true s₀' _ (inv _ _ _ _ hn₁₀ rfl ⟨t1, rfl⟩ (fun b o hb e => hs₁₀.extBut b o (Nat.ne_of_gt hb) e)
              (hlow.step fun b o hb e => hs₁₀.extBut b o hb.ne (up9 b o hb.ne (hk₆ b o (off b hb) (hk₅ b o (off b hb) e)))) ⟨pre, hT⟩)))))
          · have hc1 : escItems (x.cps.toList.drop i) i false = (i, ⟨#[c']⟩) :: escItems (x.cps.toList.drop (i + 1)) (i + 1) false := by rw [hd, escItems, if_neg hcc]
            rw [hc1] at hT ⊢
            rw [bs_ne hcc, if_neg Bool.false_ne_true]
            refine seg_execs_cons (seg_Expr_Yield rfl rfl rfl (wpAny_Tuple (wpAny_items_cons (wpAny_Name (wpAny_loadName_local rfl rfl hn₉ rfl
              (wpAny_items_cons (wpAny_Name (wpAny_loadName_local rfl rfl hn₉ rfl (wpAny_items_nil ⟨by size_fits, fun kap hkap => ?_⟩)))))))))
            refine ⟨⟨i, ⟨#[c']⟩, h₉.objs.size, t1, u, item_at hT, rfl, hLs9, ⟨_, Heap.get?_push_size _ rfl, rfl, _, rfl⟩⟩, low9 _ _ fun b o e => Heap.get?_push_of_some _ e, fun s'' hh'' => hkap .none s'' ?_⟩
            have hn'' := hn₉.at' fun o e => hh'' L o (Nat.le_refl _) (Heap.get?_push_of_some _ e)
            refine seg_execs_nil (seg_execs_nil (seg_execs_nil (seg_again rfl (ih hlt false s'' _ (inv _ _ _ _ hn'' hme ⟨t1, rfl⟩ (fun b o hb e => hh'' b o (Nat.le_of_lt hb) (Heap.get?_push_of_some _ e))
              (Low.refl L s'') ⟨pre ++ [_], by rw [List.append_assoc]; exact hT⟩)))))
      · have hin : i = x.cps.size := Nat.le_antisymm hi (Nat.not_lt.mp hlt)
        have hdn : x.cps.toList.drop i = [] := by rw [hin]; simp
        refine (WT _ (over1 hh₁)).done _ _ _ (hin ▸ hst) fun h₅ tk₅ hk₅ => seg_again rfl ?_
        have hm₅ : h₅.Ns L m := hm.at' fun o e => hk₅ _ o offL e
        refine seg_leaf (.ok .next) ?_
        rw [hkk]
        refine seg_execs_cons (seg_If (wpAny_isTrue_value (wpAny_Name (wpAny_loadName_local rfl rfl hm₅ hme (wpAny_truthy_bool ?_)))))
        rw [hdn] at hT ⊢
        cases e with
        | false =>
          rw [if_neg Bool.false_ne_true]
          refine seg_execs_nil (seg_execs_nil (seg_end (.ok (.ret .none)) ⟨rfl, rfl, hlow.step fun b o hb e => hk₅ b o (off b hb) e⟩))
        | true =>
          rw [if_pos rfl]
          obtain ⟨tp, hp⟩ := hmp (hei rfl)
          refine seg_execs_cons (seg_Expr_Yield rfl rfl rfl (wpAny_Tuple (wpAny_items_cons (wpAny_Name (wpAny_loadName_local rfl rfl hm₅ hp
              (wpAny_items_cons (wpAny_Constant_str (wpAny_items_nil ⟨by size_fits, fun kap hkap => ?_⟩))))))))
          refine ⟨⟨i - 1, ⟨#[92]⟩, h₅.objs.size, tp, _, item_at hT, rfl, Nat.le_of_lt hm₅.lt, ⟨_, Heap.get?_push_size _ rfl, rfl, _, rfl⟩⟩,
            hlow.step fun b o hb e => Heap.get?_push_of_some _ (hk₅ b o (off b hb) e), fun s'' hh'' => hkap .none s'' ?_⟩
          refine seg_execs_nil (seg_execs_nil (seg_end (.ok (.ret .none)) ⟨rfl, rfl, Low.refl L s''⟩))
    · refine ⟨Nat.zero_le _, ⟨⟨_, he⟩, hit⟩, ⟨_, hn₃.at' fun o e => hk₄ _ o e, rfl, fun h => absurd h (Nat.lt_irrefl _)⟩, ?_, ⟨[], by rw [← hTT]; rfl⟩, fun h => nomatch h⟩
      exact ((Low.refl L s₀).step (h' := h₃) (tk := 0) fun b o hb e => k3 b o hb.ne e).step fun b o hb e => hk₄ b o e
end
end Mine
end

section
open PySem PySem.W PyProof.Rows PySem.Calls
namespace Mine

abbrev Kp (h h' : Heap) : Prop := ∀ b o, h.get? b = some o → h'.get? b = some o

def EscAt (w : World) (mg mb : Str → Option Value) (A : Around) (a : Addr) (g : Nat) (L : Addr) (T : List (Nat × Str)) (i : Nat) (s : Shared) : Prop :=
  i ≤ T.length ∧ s.heap.IsGen a g ∧ a = L + 1 ∧ ∃ gs, s.gens[g]? = some gs ∧ ∀ s₀ : Shared, (∀ b o, L ≤ b → s.heap.get? b = some o → s₀.heap.get? b = some o) → Wd w mg mb s₀.heap →
    gs.Goes (model pr w) A.in1 (escEnd L) (escProto L T) (T.length - i) (.send .none) s₀

/-- the generator went on: below L all stands -/
def EscMoved (L : Addr) (s s' : Shared) : Prop :=
  ∃ h' tk G, s' = { s with heap := h', toks := tk, gens := G } ∧ (AllBare s.gens → AllBare G) ∧ ∀ b o, Lw L b → s.heap.get? b = some o → h'.get? b = some o

theorem EscAt.high {w : World} {mg mb : Str → Option Value} {A : Around} {a : Addr} {g : Nat} {L : Addr} {T : List (Nat × Str)} {i : Nat} {s : Shared} (x : EscAt w mg mb A a g L T i s) {h' : Heap} {tk : Nat}
    (hk : ∀ b o, L ≤ b → s.heap.get? b = some o → h'.get? b = some o) : EscAt w mg mb A a g L T i { s with heap := h', toks := tk } := by
  obtain ⟨h1, ⟨o, nm, qn, ho, r⟩, h3, gs, h4, h5⟩ := x
  exact ⟨h1, ⟨o, nm, qn, hk _ _ (h3 ▸ Nat.le_succ L) ho, r⟩, h3, gs, h4, fun s₀ hs₀ W => h5 s₀ (fun b o hb e => hs₀ b o hb (hk b o hb e)) W⟩

theorem bare_set {G : Array GenState} {g : Nat} {x : GenState} (hG : AllBare G) (hx : x.bare = true) : AllBare (G.setIfInBounds g x) := by
  intro y hy
  rcases Array.mem_or_eq_of_mem_setIfInBounds hy with h | h
  · exact hG y h
  · exact h ▸ hx

section
variable {w : World} {mg mb : Str → Option Value} {A : Around} {s : Shared} {E : Value → Shared → Prop}

theorem esc_next {a : Addr} {g : Nat} {L : Addr} {T : List (Nat × Str)} {i : Nat} {Q : Option Value → Shared → Prop} (hh : A.handled = none) (hroom : A.depth < recursionLimit)
    (W : Wd w mg mb s.heap) (G : EscAt w mg mb A a g L T i s)
    (item : ∀ j x tup t u s', T[i]? = some (j, x) → L ≤ tup → s'.heap.IsTuple tup #[.int j t, .str x u] → EscAt w mg mb A a g L T (i + 1) s' → EscMoved L s s' → Q (some (.ref tup)) s')
    (done : i = T.length → ∀ s', EscMoved L s s' → Q none s') : wpAny (model pr w) A (pyNext (.ref a)) Q E s := by
  obtain ⟨hi, hg, hLa, gs, hgs, hgo⟩ := G
  refine pyNext_gen (n := T.length - i) hh W.lim hroom hg hgs (hgo _ (fun b o _ e => e) W) (fun v s₁ gs' hb hY => ?_) (fun s₁ hP h' hk' => ?_)
  · obtain ⟨⟨j, x, tup, t, u, hx, rfl, hL, ht⟩, ⟨h₁, tk₁, rfl, hlow⟩, hkap⟩ := hY
    have hn : T.length - i ≠ 0 := by
      intro h0
      rw [h0] at hkap
      exact hkap _ fun b o _ e => e
    obtain ⟨m, hm⟩ : ∃ m, T.length - i = m + 1 := ⟨T.length - i - 1, by omega⟩
    rw [hm] at hx hkap
    have hidx : T.length - 1 - (m + 1 - 1) = i := by omega
    rw [hidx] at hx
    refine item j x tup t u _ hx hL ht ⟨by omega, ?_, hLa, gs', ?_, fun s₀ hs₀ W₀ => ?_⟩ ⟨h₁, tk₁, _, rfl, fun hG => bare_set (bare_set hG rfl) hb, hlow⟩
    · obtain ⟨o, nm, qn, ho, r⟩ := hg
      exact ⟨o, nm, qn, hlow _ _ (.inr hLa) ho, r⟩
    · exact setGen_self (s := { s with heap := h₁, toks := tk₁, gens := s.gens.setIfInBounds g .running }) (setGen_self (s := s) (x := .running) hgs)
    · have := hkap s₀ fun b o hb e => hs₀ b o hb e
      rw [show T.length - (i + 1) = m by omega]
      exact this
  · obtain ⟨h0, h₁, tk₁, rfl, hlow⟩ := hP
    refine done (by omega) _ ⟨h', tk₁, _, rfl, fun hG => bare_set (bare_set hG rfl) rfl, fun b o hb e => hk' b o (hlow b o hb e)⟩

theorem letGo_gen {elts : List Expr} {x1 : Nat} {pos : Pos} {a T : Addr} {g : Nat} {Q : Unit → Shared → Prop} (hg : s.heap.IsGen a g) (hQ : Q () s) :
    wpAny (model pr w) A (letOwnedTupleGo (.Tuple elts x1 pos) (.ref a) (.ref T)) Q E s := by
  obtain ⟨o, nm, qn, ho, hc, hd, _⟩ := hg
  unfold letOwnedTupleGo
  refine wpAny_bind (wpAny_load ho ?_)
  rw [hc, hd]
  show wpAny _ A (if (["enumerate", "zip", "dict_itemiterator", "dict_reverseitemiterator", "odict_iterator", "itertools.zip_longest", "itertools.pairwise"].contains "generator" &&
      (#[.int g 0, nm, qn] : Array Value)[0]? == some (rawInt T)) = true then _ else _) Q E s
  rw [if_neg (by
    intro h
    rw [show (["enumerate", "zip", "dict_itemiterator", "dict_reverseitemiterator", "odict_iterator", "itertools.zip_longest", "itertools.pairwise"].contains "generator") = false from by decide, Bool.false_and] at h
    cases h)]
  exact wpAny_pure hQ

/-- the generator made, as its consumer has it -/
theorem esc_made {x : Str} {t : Tok} {Q : Value → Shared → Prop} (W : Wd w mg mb s.heap) (hh : A.handled = none) (hroom : A.depth < recursionLimit)
    (hQ : ∀ h' tk G, Kp s.heap h' → (AllBare s.gens → AllBare G) → EscAt w mg mb A (s.heap.objs.size + 1) s.gens.size s.heap.objs.size (escItems x.cps.toList 0 false) 0 { s with heap := h', gens := G, toks := tk } →
      Q (.ref (s.heap.objs.size + 1)) { s with heap := h', gens := G, toks := tk }) :
    wpAny (model pr w) A (call (.ref 21) [.str x t]) Q E s := by
  refine esc_call W hroom fun h' tk c hk hg hseg => hQ h' tk _ hk (fun hG y hy => ?_) ⟨Nat.zero_le _, hg, rfl, .fresh c, ?_, fun s₀ hs₀ W₀ => ⟨rfl, hseg _ s₀ hh hs₀ W₀⟩⟩
  · rcases Array.mem_push.mp hy with h | h
    · exact hG y h
    · exact h ▸ rfl
  · exact Array.getElem?_push_size ..

/-- a for over the generator -/
theorem esc_for {env : Env} {xi xc : Str} {pk pv pt : Pos} {x1 : Nat} {body : List Stmt} {R : Result → Shared → Prop} {a : Addr} {g : Nat} {L : Addr} {T : List (Nat × Str)} {m : Str → Option Value} {hb : Heap}
    (hh : A.handled = none) (hroom : A.depth < recursionLimit) (W₀ : Wd w mg mb hb)
    (hxi : env.kindOf xi = some .local) (hxc : env.kindOf xc = some .local) (hp : (env.scope.kind == .class || (env.scope.kind == .module && env.locals != env.globals)) = false)
    (hlL : env.locals < L) (hbl : hb.get? env.locals = none) (hbL : hb.objs.size ≤ L)
    (J : Nat → (Str → Option Value) → Heap → Prop)
    (hJ : ∀ i m h h', J i m h → (∀ b o, b < L → b ≠ env.locals → h.get? b = some o → h'.get? b = some o) → J i m h')
    (G : EscAt w mg mb A a g L T 0 s) (hn : s.heap.Ns env.locals m) (hk : Kp hb s.heap) (hB : AllBare s.gens) (h0 : J 0 m s.heap)
    (step : ∀ i j x t u m₁ h tk G, T[i]? = some (j, x) → J i m₁ h → h.Ns env.locals (fun y => if y = xc then some (.str x u) else if y = xi then some (.int (j : Nat) t) else m₁ y) → Kp hb h → L < h.objs.size → AllBare G →
      wpAny (model pr w) A (execs body env) (fun f s₂ => match f with
        | .next | .cont => ∃ h₂ tk₂ m₂, s₂ = { s with heap := h₂, toks := tk₂, gens := G } ∧ h₂.Ns env.locals m₂ ∧ Kp hb h₂ ∧ (∀ b o, L ≤ b → h.get? b = some o → h₂.get? b = some o) ∧ J (i + 1) m₂ h₂
        | .brk => R (.ok .next) s₂
        | .ret v => R (.ok (.ret v)) s₂) (notedBy (model pr w) A env fun e s' => R (.error e) s') { s with heap := h, toks := tk, gens := G })
    (done : ∀ m₁ h tk G, J T.length m₁ h → h.Ns env.locals m₁ → Kp hb h → AllBare G → R (.ok .next) { s with heap := h, toks := tk, gens := G }) :
    codeAny (model pr w) A (.forLoop (.Tuple [.Name xi pk, .Name xc pv] x1 pt) (.ref a) body [] env) R s := by
  refine codeAny_forLoop_any (I := fun k s' => ∃ i m₁ h tk Gn, s' = { s with heap := h, toks := tk, gens := Gn } ∧ k = T.length + 1 - i ∧ EscAt w mg mb A a g L T i s' ∧ h.Ns env.locals m₁ ∧ Kp hb h ∧ AllBare Gn ∧ J i m₁ h) ?_ (T.length + 1)
    ⟨0, m, s.heap, s.toks, s.gens, rfl, rfl, G, hn, hk, hB, h0⟩
  rintro k s' ⟨i, m₁, h, tk, Gn, rfl, rfl, hE, hn₁, hk₁, hB₁, hJ₁⟩
  have hblt : ∀ b o, hb.get? b = some o → b < L := fun b o e => Nat.lt_of_lt_of_le (Heap.lt_size e) hbL
  refine esc_next hh hroom (W₀.keeps hk₁) hE (fun j x tup t u s₁ hx hL ht hE₁ hm => ?_) (fun hi s₁ hm => ?_)
  · obtain ⟨h₁, tk₁, G₁, rfl, hBG, hlow⟩ := hm
    refine letGo_gen hE₁.2.1 (wpAny_assign_Tuple hh ht rfl rfl fun h₂ hx₂ => ?_)
    dsimp only at hx₂ hlow hBG ht
    have up2 : ∀ b o, h₁.get? b = some o → h₂.get? b = some o := fun b o e => hx₂ b o (Nat.ne_of_lt (Heap.lt_size e)) e
    have hn₂ : h₂.Ns env.locals m₁ := hn₁.at' fun o e => up2 _ o (hlow _ o (.inl hlL) e)
    show wpAny _ _ (do holding [_] (assign (.Name _ _) _ _); do holding [] (assign (.Name _ _) _ _); pure ()) _ _ _
    refine wpAny_bind (wpAny_holding (wpAny_assign_Name (wpAny_storeName_local hxi hn₂ (fun h₃ hn₃ hs₃ => ?_) hp)))
    dsimp only at hn₃ hs₃
    refine wpAny_bind (wpAny_holding (wpAny_assign_Name (wpAny_storeName_local hxc hn₃ (fun h₄ hn₄ hs₄ => wpAny_pure ?_) hp)))
    dsimp only at hn₄ hs₄ ⊢
    have up4 : ∀ b o, b ≠ env.locals → h₁.get? b = some o → h₄.get? b = some o := fun b o hb' e => hs₄.extBut b o hb' (hs₃.extBut b o hb' (up2 b o e))
    have hk₄ : Kp hb h₄ := fun b o e => up4 b o (fun q => by rw [q, hbl] at e; cases e) (hlow b o (.inl (hblt b o e)) (hk₁ b o e))
    have hE₄ := hE₁.high (h' := h₄) (tk := tk₁ + 1 + 1) fun b o hb' e => up4 b o (Nat.ne_of_gt (Nat.lt_of_lt_of_le hlL hb')) e
    have hL4 : L < h₄.objs.size := by
      obtain ⟨o, nm, qn, ho, _⟩ := hE₄.2.1
      rw [hE₄.2.2.1] at ho
      exact Nat.lt_of_succ_lt (Heap.lt_size ho)
    refine wpAny_mono (step i j x t u m₁ h₄ _ G₁ hx (hJ _ _ _ _ hJ₁ fun b o hbL' hbl' e => up4 b o hbl' (hlow b o (.inl hbL') e)) hn₄ hk₄ hL4 (hBG hB₁)) (fun f s₂ hf => ?_) fun _ _ e => e
    have fin : (∃ h₂ tk₂ m₂, s₂ = { s with heap := h₂, toks := tk₂, gens := G₁ } ∧ h₂.Ns env.locals m₂ ∧ Kp hb h₂ ∧ (∀ b o, L ≤ b → h₄.get? b = some o → h₂.get? b = some o) ∧ J (i + 1) m₂ h₂) →
        ∃ k', k' < T.length + 1 - i ∧ ∃ i' m₁ h tk Gn, s₂ = { s with heap := h, toks := tk, gens := Gn } ∧ k' = T.length + 1 - i' ∧ EscAt w mg mb A a g L T i' s₂ ∧ h.Ns env.locals m₁ ∧ Kp hb h ∧ AllBare Gn ∧ J i' m₁ h := by
      rintro ⟨h₅, tk₅, m₅, rfl, q1, q2, q3, q4⟩
      have := hE₁.1
      exact ⟨T.length + 1 - (i + 1), by omega, i + 1, m₅, h₅, tk₅, G₁, rfl, rfl, hE₄.high q3, q1, q2, hBG hB₁, q4⟩
    cases f with
    | next => exact fin hf
    | cont => exact fin hf
    | brk => exact hf
    | ret v => exact hf
  · obtain ⟨h₁, tk₁, G₁, rfl, hBG, hlow⟩ := hm
    subst hi
    exact wpAny_execs_nil (done m₁ h₁ _ G₁ (hJ _ _ _ _ hJ₁ fun b o hbL' _ e => hlow b o (.inl hbL') e) (hn₁.at' fun o e => hlow _ o (.inl hlL) e) (fun b o e => hlow b o (.inl (hblt b o e)) (hk₁ b o e)) (hBG hB₁))

set_option maxRecDepth 4000 in
theorem Call_join {env : Env} {sep : Str} {k : Nat} {p1 apos pos : Pos} {e : Expr} {Q : Value → Shared → Prop}
    (hbase : attributeBase (.Constant (.str sep) k p1) "join" env (eval (.Constant (.str sep) k p1) env) = eval (.Constant (.str sep) k p1) env)
    (hline : (apos.endLine == pos.line) = true)
    (htrees : backTo pos (starEach [e] env) = [(false, eval e env)])
    (h : wpAny (model pr w) A (eval e env) (fun y s₂ => wpAny (model pr w) A (call (.builtin "str.join") [.str sep s.toks, y]) Q E s₂) E { s with toks := s.toks + 1 }) :
    wpAny (model pr w) A (eval (.Call (.Attribute (.Constant (.str sep) k p1) "join" apos) [e] [] pos) env) Q E s := by
  rw [arm_eval_Call, hbase]
  refine wpAny_bind (wpAny_Constant_str ?_)
  refine wpAny_bind (wpAny_standAt ?_)
  have hform : methodCallForm (([e] : List Expr).length + ([] : List Keyword).length) (backTo pos (starEach [e] env)) (backToKw pos (keywordEach [] env)) = true := by rw [htrees]; rfl
  have hpos : methodCallPos true (.Constant (.str sep) k p1) env apos pos = pure pos := by unfold methodCallPos; simp [hline]
  unfold methodCall
  rw [hform]
  unfold calleeOf
  rw [if_pos rfl]
  refine wpAny_bind (wpAny_holding ?_)
  with_reducible refine GM.join ?_
  refine wpAny_bind (wpAny_of_eq hpos ?_)
  show wpAny _ _ (callWith pos (.builtin "str.join") [.str sep s.toks] (backTo pos (starEach [e] env)) []) _ _ _
  rw [htrees]
  exact callWith_builtin rfl (evalArgs_plain (spliced_cons (wpAny_mono h (fun y s₂ h₂ => spliced_nil h₂) fun _ _ x => x)))

set_option maxRecDepth 4000 in
theorem Call_joinL {env : Env} {sep : Str} {k : Nat} {p1 apos pos cpos : Pos} {elt : Expr} {gens : List Comprehension} {scope : Scope} {Q : Value → Shared → Prop}
    (hline : (apos.endLine == pos.line) = true)
    (h : wpAny (model pr w) A (eval (.ListComp elt gens scope cpos) env) (fun y s₂ => wpAny (model pr w) A (call (.builtin "str.join") [.str sep s.toks, y]) Q E s₂) E { s with toks := s.toks + 1 }) :
    wpAny (model pr w) A (eval (.Call (.Attribute (.Constant (.str sep) k p1) "join" apos) [.ListComp elt gens scope cpos] [] pos) env) Q E s :=
  Call_join rfl hline rfl h
set_option maxRecDepth 4000 in
theorem Call_joinN {env : Env} {sep x : Str} {k : Nat} {p1 apos pos cpos : Pos} {Q : Value → Shared → Prop}
    (hline : (apos.endLine == pos.line) = true)
    (h : wpAny (model pr w) A (eval (.Name x cpos) env) (fun y s₂ => wpAny (model pr w) A (call (.builtin "str.join") [.str sep s.toks, y]) Q E s₂) E { s with toks := s.toks + 1 }) :
    wpAny (model pr w) A (eval (.Call (.Attribute (.Constant (.str sep) k p1) "join" apos) [.Name x cpos] [] pos) env) Q E s :=
  Call_join rfl hline rfl h
end
end Mine
end

section
open PySem PySem.W PyProof.Rows PySem.Calls
namespace Mine

def stripRun (x : Str) : Nat → Option Nat → List Str → List (Nat × Str) → List Str
  | start, _, acc, [] => if start < x.length then acc ++ [Txt.slice x (some (start : Int)) none] else acc
  | start, none, acc, (p, y) :: r => if y = ⟨#[34]⟩ then stripRun x start (some p) acc r else stripRun x start none acc r
  | start, some q, acc, (p, y) :: r =>
    if y = ⟨#[34]⟩ then stripRun x (p + 1) none (if start ≠ q then acc ++ [Txt.slice x (some (start : Int)) (some (q : Int))] else acc) r else stripRun x start (some q) acc r
def stripS (x : Str) : Str := if Txt.contains x (Str.ofString "\"") then Txt.join (Str.ofString "") (stripRun x 0 none [] (escItems x.cps.toList 0 false)) else x

theorem drop_get {α : Type} {T : List α} {i : Nat} {a : α} (h : T[i]? = some a) : T.drop i = a :: T.drop (i + 1) := by
  obtain ⟨hi, e⟩ := List.getElem?_eq_some_iff.mp h
  rw [List.drop_eq_getElem_cons hi, e]

theorem escItems_length : ∀ (cs : List Nat) (i : Nat) (e : Bool), (escItems cs i e).length ≤ cs.length + (if e then 1 else 0)
  | [], _, true => by simp [escItems]
  | [], _, false => by simp [escItems]
  | c :: cs, i, true => by
    have := escItems_length cs (i + 1) false
    simp only [escItems, List.length_cons] at *
    simp at *; omega
  | c :: cs, i, false => by
    rw [escItems]
    split
    · have := escItems_length cs (i + 1) true
      simp only [List.length_cons] at *
      simp at *; omega
    · have := escItems_length cs (i + 1) false
      simp only [List.length_cons] at *
      simp at *; omega

theorem quo : Str.ofString "\"" = ⟨#[34]⟩ := by decide +kernel
theorem quo_ne {y : Str} (h : y ≠ ⟨#[34]⟩) : (y == Str.ofString "\"") = false := by rw [quo]; exact beq_eq_false_iff_ne.mpr h
theorem quo_eq : ((⟨#[34]⟩ : Str) == Str.ofString "\"") = true := by decide +kernel

theorem push_strs {l : List (Str × Tok)} {z : Str} {u : Tok} : (strValues l).toArray.push (.str z u) = (strValues (l ++ [(z, u)])).toArray := by simp [strValues]

theorem lens_snoc {l : List (Str × Tok)} {z : Str} {u : Tok} {N : Nat} (h : ∀ y ∈ l, y.1.length ≤ N) (hz : z.length ≤ N) : ∀ y ∈ l ++ [(z, u)], y.1.length ≤ N := by
  intro y hy
  rcases List.mem_append.mp hy with e | e
  · exact h y e
  · rw [List.mem_singleton.mp e]; exact hz
theorem fold_le (sep : Str) {N : Nat} : ∀ (ts : List Str) (a : Nat), (∀ y ∈ ts, y.length ≤ N) → ts.foldl (fun a y => a + y.length + sep.length) a ≤ a + ts.length * (N + sep.length)
  | [], a, _ => by simp
  | y :: r, a, h => by
    have h1 := h y List.mem_cons_self
    have h2 := fold_le sep r (a + y.length + sep.length) (fun z hz => h z (List.mem_cons_of_mem _ hz))
    rw [List.foldl_cons, List.length_cons, Nat.add_mul, Nat.one_mul]
    omega
theorem joinOk_of {ts : List Str} {N : Nat} (h : ∀ y ∈ ts, y.length ≤ N) (hb : ts.length * N ≤ sizeLine) : JoinOk (Str.ofString "") ts = true := by
  unfold JoinOk Builtin.Str.tooLong
  have h1 := fold_le (Str.ofString "") ts 0 h
  rw [show (Str.ofString "").length = 0 from rfl] at h1
  rw [List.foldl_toArray]
  simp
  simp at h1
  exact Nat.le_trans h1 hb

def opVal : Option (Nat × Tok) → Value
  | none => .none
  | some (q, t) => .int (q : Int) t

section
variable {w : World} {mg mb : Str → Option Value} {A : Around} {s : Shared} {E : Value → Shared → Prop}

/-- a function of the text, called by its global name -/
theorem glob_fn {x : Str} {fa : Addr} (W : Wd w mg mb s.heap) (e : nsIn (KH w.params) mainGlobals x = some (some (.ref fa))) : mg x = some (.ref fa) := mg_of W.K W.g e

set_option maxRecDepth 20000 in
set_option maxHeartbeats 2000000 in
theorem strip_ok {x : Str} {t : Tok} {Q : Value → Shared → Prop} (W : Wd w mg mb s.heap) (hh : A.handled = none) (hroom : A.depth + 1 < recursionLimit) (hB : AllBare s.gens) (hlen : x.length ≤ 1000)
    (hQ : ∀ h' tk G t', Kp s.heap h' → AllBare G → Q (.str (stripS x) t') { s with heap := h', toks := tk, gens := G }) :
    wpAny (model pr w) A (call (.ref 28) [.str x t]) Q E s := by
  have hcd : s.heap.CodeRec (.ref 27) (Str.ofString "_strip_quoted_realnames") := ⟨27, _, _, _, rfl, W.K 27 _ rfl, rfl, rfl⟩
  refine wpAny_call (call_pos_ret (Nat.lt_of_succ_lt hroom) (W.K 28 _ rfl) rfl W.lim hcd rfl (locs rfl) fun h₁ F => ?_)
  have hmf : mg (Str.ofString "_iter_escaped_chars") = some (.ref 21) := mg_of W.K W.g (by with_unfolding_all rfl)
  have hml : mg (Str.ofString "len") = none := mg_none_of W.K W.g (by with_unfolding_all rfl)
  refine wpAny_execs_cons (wpAny_If (wpAny_isTrue_Compare1 (wpAny_Constant_str (wpAny_Name (wpAny_loadName_local rfl rfl F.ns rfl (PyProof.Rows.notIn_str (wpAny_truthy_bool ?_)))))))
  cases hc : Txt.contains x (Str.ofString "\"") with
  | false =>
    rw [show (!(!(Builtin.Str.occurrences x (Str.ofString "\"") 0 x.length 1).isEmpty)) = !Txt.contains x (Str.ofString "\"") from rfl, hc]
    refine wpAny_execs_cons (wpAny_Return_some (wpAny_Name (wpAny_loadName_local rfl rfl F.ns rfl ?_)))
    have := hQ h₁ (s.toks + 1 + 1) s.gens t F.keep hB
    rw [stripS, hc] at this
    exact this
  | true =>
    rw [show (!(!(Builtin.Str.occurrences x (Str.ofString "\"") 0 x.length 1).isEmpty)) = !Txt.contains x (Str.ofString "\"") from rfl, hc]
    refine wpAny_execs_nil ?_
    dsimp only
    refine wpAny_execs_cons (wpAny_Assign_Name (wpAny_Constant_int (st F fun h₂ F₂ => ?_)))
    refine wpAny_execs_cons (wpAny_Assign_Name (wpAny_Constant_none (st F₂ fun h₃ F₃ => ?_)))
    refine wpAny_execs_cons (wpAny_Assign_Name (wpAny_List (wpAny_items_nil ⟨by size_fits, stN (F₃.push _) (News.push F₃ News.nil _) fun h₄ F₄ N₄ => ?_⟩)))
    dsimp only at F₄ N₄ ⊢
    generalize hT : escItems x.cps.toList 0 false = T
    have hTl : T.length ≤ 1000 := by
      have := escItems_length x.cps.toList 0 false
      rw [hT] at this
      have h2 : x.cps.size = x.length := rfl
      simp at this; omega
    have hr₀ : ∃ r, r = h₃.objs.size := ⟨_, rfl⟩
    obtain ⟨r, hr⟩ := hr₀
    rw [← hr] at F₄ N₄
    have hNr := N₄ (r, _) (List.mem_singleton.mpr rfl)
    refine wpAny_execs_cons (wpAny_For (Call_ (Name_function_global rfl rfl (loadGlobal_global (W.g.keeps F₄.keep) hmf
      (callWith_K W.K (by with_unfolding_all rfl) (args_cons (wpAny_Name (wpAny_loadName_local rfl rfl F₄.ns rfl (args_nil ⟨W.K.keeps F₄.keep, ?_⟩)))))))))
    refine esc_made (W.keeps F₄.keep) hh hroom fun h₅ tk₅ G₅ hk₅ hB₅ hE => ?_
    rw [hT] at hE
    dsimp only at hE hk₅ hB₅
    have hrL : r < h₄.objs.size := Heap.lt_size hNr.1
    refine wpAny_pyIter_gen hE.2.1 ?_
    refine esc_for (w := w) (mg := mg) (mb := mb) (hb := s.heap) (m := _) (J := fun i m h => m (Str.ofString "addr") = some (.str x t) ∧ ∃ start ts op l, m (Str.ofString "start") = some (.int ((start : Nat) : Int) ts) ∧
        m (Str.ofString "open_pos") = some (opVal op) ∧ m (Str.ofString "result") = some (.ref r) ∧ PlainL h r (strValues l).toArray ∧ (l.length ≤ i ∧ ∀ z ∈ l, z.1.length ≤ x.length) ∧ stripRun x 0 none [] T = stripRun x start (op.map (·.1)) (l.map (·.1)) (T.drop i))
      hh hroom W rfl rfl rfl (F₄.ns.lt) (Heap.get?_none_of_le (Nat.le_refl _)) (Nat.le_trans F₄.above (Nat.le_of_lt F₄.ns.lt)) ?_ hE (F₄.ns.keeps hk₅) (fun b o e => hk₅ b o (F₄.keep b o e)) (hB₅ hB) ?_ ?_ ?_
    · rintro i m h h' ⟨a1, start, ts, op, l, a2, a3, a4, ⟨o, n, ho, hr2⟩, a6, a7⟩ hk'
      exact ⟨a1, start, ts, op, l, a2, a3, a4, ⟨o, n, hk' r o hrL hNr.2.1 ho, hr2⟩, a6, a7⟩
    · refine ⟨rfl, 0, _, none, [], rfl, rfl, rfl, ⟨_, _, hk₅ _ _ hNr.1, rfl, rfl, rfl⟩, ⟨Nat.le_refl _, fun z hz => nomatch hz⟩, rfl⟩
    · rintro i j y ty u m h tk G hx ⟨a1, start, ts, op, l, a2, a3, a4, hP, a6, a7⟩ hn hk hLh hBG
      have hil : i < T.length := (List.getElem?_eq_some_iff.mp hx).1
      rw [drop_get hx] at a7
      have hrne : r ≠ s.heap.objs.size := hNr.2.1
      have base : ∀ (h₂ : Heap), (∀ b o, b ≠ s.heap.objs.size → b ≠ r → h.get? b = some o → h₂.get? b = some o) → Kp s.heap h₂ ∧ ∀ b o, h₄.objs.size ≤ b → h.get? b = some o → h₂.get? b = some o := fun h₂ k2 =>
        ⟨fun b o e => k2 b o (Nat.ne_of_lt (Heap.lt_size e)) (fun q => by rw [q, hNr.2.2] at e; cases e) (hk b o e),
          fun b o hb e => k2 b o (Nat.ne_of_gt (Nat.lt_of_lt_of_le F₄.ns.lt hb)) (Nat.ne_of_gt (Nat.lt_of_lt_of_le hrL hb)) e⟩
      refine wpAny_execs_cons (wpAny_If (wpAny_isTrue_Compare1 (wpAny_Name (wpAny_loadName_local rfl rfl hn rfl (wpAny_Constant_str (PyProof.Rows.eq_str (wpAny_truthy_bool ?_)))))))
      by_cases hq : y = ⟨#[34]⟩
      · subst hq
        rw [quo_eq, if_pos rfl]
        cases op with
        | none =>
          refine wpAny_execs_cons (wpAny_If (wpAny_isTrue_Compare1 (wpAny_Name (wpAny_loadName_local rfl rfl hn a3 (wpAny_Constant_none (is_none (wpAny_truthy_bool ?_)))))))
          rw [show (opVal none == Value.none) = true from rfl, if_pos rfl]
          refine wpAny_execs_cons (wpAny_Assign_Name (wpAny_Name (wpAny_loadName_local rfl rfl hn rfl (wpAny_storeName_local rfl hn (fun h₆ hn₆ hs₆ => ?_) rfl))))
          refine wpAny_execs_nil (wpAny_execs_nil (wpAny_execs_nil ?_))
          have hb := base h₆ fun b o hb1 hb2 e => hs₆.extBut b o hb1 e
          refine ⟨h₆, _, _, rfl, hn₆, hb.1, hb.2, a1, start, ts, some (j, ty), l, a2, rfl, a4, ?_, ⟨Nat.le_succ_of_le a6.1, a6.2⟩, ?_⟩
          · exact hP.extBut hs₆.extBut hrne
          · rw [a7]; rfl
        | some qq =>
          obtain ⟨q, tq⟩ := qq
          refine wpAny_execs_cons (wpAny_If (wpAny_isTrue_Compare1 (wpAny_Name (wpAny_loadName_local rfl rfl hn a3 (wpAny_Constant_none (is_none (wpAny_truthy_bool ?_)))))))
          rw [show (opVal (some (q, tq)) == Value.none) = false from rfl, if_neg Bool.false_ne_true]
          refine wpAny_execs_cons (wpAny_If (wpAny_isTrue_Compare1 (wpAny_Name (wpAny_loadName_local rfl rfl hn a2 (wpAny_Name (wpAny_loadName_local rfl rfl hn a3 (PyProof.Rows.ne_int (wpAny_truthy_bool ?_))))))))
          by_cases hsq : start = q
          · subst hsq
            rw [show (((start : Nat) : Int) != ((start : Nat) : Int)) = false by simp, if_neg Bool.false_ne_true]
            refine wpAny_execs_nil ?_
            refine wpAny_execs_cons (wpAny_Assign_Name (wpAny_BinOp (wpAny_Name (wpAny_loadName_local rfl rfl hn rfl (wpAny_Constant_int (PyProof.Rows.add_int (wpAny_storeName_local rfl hn (fun h₆ hn₆ hs₆ => ?_) rfl)))))))
            refine wpAny_execs_cons (wpAny_Assign_Name (wpAny_Constant_none (wpAny_storeName_local rfl hn₆ (fun h₇ hn₇ hs₇ => ?_) rfl)))
            refine wpAny_execs_nil (wpAny_execs_nil (wpAny_execs_nil ?_))
            have hb := base h₇ fun b o hb1 hb2 e => hs₇.extBut b o hb1 (hs₆.extBut b o hb1 e)
            refine ⟨h₇, _, _, rfl, hn₇, hb.1, hb.2, a1, j + 1, _, none, l, rfl, rfl, a4, ?_, ⟨Nat.le_succ_of_le a6.1, a6.2⟩, ?_⟩
            · exact (hP.extBut hs₆.extBut hrne).extBut hs₇.extBut hrne
            · rw [a7]
              show stripRun x start (some start) _ _ = _
              rw [stripRun]; simp
          · rw [show (((start : Nat) : Int) != ((q : Nat) : Int)) = true from bne_iff_ne.mpr fun e => hsq (Int.ofNat.inj e), if_pos rfl]
            refine wpAny_execs_cons (wpAny_Expr (wpAny_Call_append rfl rfl rfl rfl (wpAny_Name (wpAny_loadName_local rfl rfl hn a4 ⟨r, _, rfl, hP, ?_⟩))))
            refine wpAny_Subscript_str_slice (wpAny_Name (wpAny_loadName_local rfl rfl hn a1 (wpAny_Name (wpAny_loadName_local rfl rfl hn a2 (wpAny_Name (wpAny_loadName_local rfl rfl hn a3
              ⟨x, t, some (start, ts), some (q, tq), rfl, rfl, rfl, post_val_or_str ⟨Nat.le_trans (Txt.slice_le x _ _) (by rw [sizeLine_eq]; omega), fun t' k => ?_⟩⟩))))))
            refine list_append_plainL (hP.keeps fun b o e => Heap.get?_push_of_some _ e) (fun h₅' hP₅ hs₅ => wpAny_execs_nil ?_) ?_
            · dsimp only at hs₅ hP₅ ⊢
              have hn₅ := (hn.at' fun o e => Heap.get?_push_of_some _ e).sameBut hs₅ (Ne.symm hrne)
              refine wpAny_execs_cons (wpAny_Assign_Name (wpAny_BinOp (wpAny_Name (wpAny_loadName_local rfl rfl hn₅ rfl (wpAny_Constant_int (PyProof.Rows.add_int (wpAny_storeName_local rfl hn₅ (fun h₆ hn₆ hs₆ => ?_) rfl)))))))
              refine wpAny_execs_cons (wpAny_Assign_Name (wpAny_Constant_none (wpAny_storeName_local rfl hn₆ (fun h₇ hn₇ hs₇ => ?_) rfl)))
              refine wpAny_execs_nil (wpAny_execs_nil (wpAny_execs_nil ?_))
              have hb := base h₇ fun b o hb1 hb2 e => hs₇.extBut b o hb1 (hs₆.extBut b o hb1 (hs₅.extBut b o hb2 (Heap.get?_push_of_some _ e)))
              refine ⟨h₇, _, _, rfl, hn₇, hb.1, hb.2, a1, j + 1, _, none, l ++ [(Txt.slice x (some (start : Int)) (some (q : Int)), t')], rfl, rfl, a4, ?_, ⟨by simpa using a6.1, lens_snoc a6.2 (Txt.slice_le x _ _)⟩, ?_⟩
              · have := (hP₅.extBut hs₆.extBut hrne).extBut hs₇.extBut hrne
                rw [push_strs] at this
                exact this
              · rw [a7]
                show stripRun x start (some q) _ _ = _
                rw [stripRun]; simp [hsq]
            · have := a6.1
              simp [strValues]; rw [sizeLine_eq]; omega
      · rw [quo_ne hq, if_neg Bool.false_ne_true]
        refine wpAny_execs_nil (wpAny_execs_nil ?_)
        have hb := base h fun b o hb1 hb2 e => e
        refine ⟨h, _, _, rfl, hn, hb.1, hb.2, a1, start, ts, op, l, a2, a3, a4, hP, ⟨Nat.le_succ_of_le a6.1, a6.2⟩, ?_⟩
        rw [a7]
        cases op with
        | none => show stripRun x start none _ _ = _; rw [stripRun, if_neg hq]; rfl
        | some qq => show stripRun x start (some qq.1) _ _ = _; rw [stripRun, if_neg hq]; rfl
    · rintro m h tk G ⟨a1, start, ts, op, l, a2, a3, a4, hP, a6, a7⟩ hn hk hBG
      rw [List.drop_length] at a7
      refine wpAny_execs_cons (wpAny_If (wpAny_isTrue_Compare1 (wpAny_Name (wpAny_loadName_local rfl rfl hn a2 (Call_ (Name_function_global rfl rfl (loadGlobal_builtin (W.g.keeps hk) hml (W.b.keeps hk) ((W.bb _ (by decide)).trans boot_len)
        (callWith_builtin1 (args_cons (wpAny_Name (wpAny_loadName_local rfl rfl hn a1 (args_nil (PyProof.Rows.len_str (by omega) (PyProof.Rows.lt_int (wpAny_truthy_bool ?_)))))))))))))))
      have jn : ∀ (h₆ : Heap) (l' : List (Str × Tok)), Kp s.heap h₆ → l'.length ≤ T.length + 1 → (∀ z ∈ l', z.1.length ≤ x.length) → stripRun x 0 none [] T = l'.map (·.1) →
          (∀ t' k', Q (.str (Txt.join (Str.ofString "") (l'.map (·.1))) t') { s with heap := h₆, toks := k', gens := G }) ∧ JoinOk (Str.ofString "") (l'.map (·.1)) = true := by
        intro h₆ l' hk₆ hl₆ hz₆ e₆
        refine ⟨fun t' k' => ?_, joinOk_of (N := x.length) (fun y hy => ?_) ?_⟩
        · have := hQ h₆ k' G t' hk₆ hBG
          rw [stripS, hc, if_pos rfl, hT, e₆] at this
          exact this
        · obtain ⟨p, hp, rfl⟩ := List.mem_map.mp hy
          exact hz₆ p hp
        · rw [List.length_map, sizeLine_eq]
          exact Nat.le_trans (Nat.mul_le_mul (Nat.le_trans hl₆ (Nat.succ_le_succ hTl)) hlen) (by decide)
      have hrne : r ≠ s.heap.objs.size := hNr.2.1
      by_cases hsl : start < x.length
      · rw [decide_eq_true (show ((start : Nat) : Int) < ((x.length : Nat) : Int) from Int.ofNat_lt.mpr hsl), if_pos rfl]
        refine wpAny_execs_cons (wpAny_Expr (wpAny_Call_append rfl rfl rfl rfl (wpAny_Name (wpAny_loadName_local rfl rfl hn a4 ⟨r, _, rfl, hP, ?_⟩))))
        refine wpAny_Subscript_str_slice (wpAny_Name (wpAny_loadName_local rfl rfl hn a1 (wpAny_Name (wpAny_loadName_local rfl rfl hn a2 (wpAny_pure
              ⟨x, t, some (start, ts), none, rfl, rfl, rfl, post_val_or_str ⟨Nat.le_trans (Txt.slice_le x _ _) (by rw [sizeLine_eq]; omega), fun t' k => ?_⟩⟩)))))
        refine list_append_plainL (hP.keeps fun b o e => Heap.get?_push_of_some _ e) (fun h₅' hP₅ hs₅ => wpAny_execs_nil ?_) ?_
        · dsimp only at hs₅ hP₅ ⊢
          rw [push_strs] at hP₅
          have hn₅ := (hn.at' fun o e => Heap.get?_push_of_some _ e).sameBut hs₅ (Ne.symm hrne)
          have hk₅' : Kp s.heap h₅' := fun b o e => hs₅.extBut b o (fun q => by rw [q, hNr.2.2] at e; cases e) (Heap.get?_push_of_some _ (hk b o e))
          have J := jn h₅' _ hk₅' (by simpa using a6.1) (lens_snoc (u := t') a6.2 (Txt.slice_le x (some (start : Int)) none)) (by
            rw [a7, stripRun, if_pos hsl]; simp)
          refine wpAny_execs_cons (wpAny_Return_some (Call_joinN rfl (wpAny_Name (wpAny_loadName_local rfl rfl hn₅ a4 (SC.join hP₅.isList rfl J.2 J.1)))))
        · have := a6.1
          simp [strValues]; rw [sizeLine_eq]; omega
      · rw [decide_eq_false (show ¬ ((start : Nat) : Int) < ((x.length : Nat) : Int) from fun h => hsl (Int.ofNat_lt.mp h)), if_neg Bool.false_ne_true]
        have J := jn h l hk (Nat.le_succ_of_le a6.1) a6.2 (by rw [a7, stripRun, if_neg hsl])
        refine wpAny_execs_nil (wpAny_execs_cons (wpAny_Return_some (Call_joinN rfl (wpAny_Name (wpAny_loadName_local rfl rfl hn a4 (SC.join hP.isList rfl J.2 J.1))))))
end
end Mine
end

section
open PySem PySem.W PyProof.Rows PySem.Calls
namespace Mine

def parRun : Int → List (Nat × Str) → Bool
  | o, [] => o == 0
  | o, (_, y) :: r => if y = ⟨#[40]⟩ then parRun (o + 1) r else if y = ⟨#[41]⟩ then (if o - 1 < 0 then false else parRun (o - 1) r) else parRun o r
def checkP (x : Str) : Bool := parRun 0 (escItems (stripS x).cps.toList 0 false)

theorem opn : Str.ofString "(" = ⟨#[40]⟩ := by decide +kernel
theorem opn_ne {y : Str} (h : y ≠ ⟨#[40]⟩) : (y == Str.ofString "(") = false := by rw [opn]; exact beq_eq_false_iff_ne.mpr h
theorem opn_eq : ((⟨#[40]⟩ : Str) == Str.ofString "(") = true := by decide +kernel
theorem cls : Str.ofString ")" = ⟨#[41]⟩ := by decide +kernel
theorem cls_ne {y : Str} (h : y ≠ ⟨#[41]⟩) : (y == Str.ofString ")") = false := by rw [cls]; exact beq_eq_false_iff_ne.mpr h
theorem cls_eq : ((⟨#[41]⟩ : Str) == Str.ofString ")") = true := by decide +kernel

section
variable {w : World} {mg mb : Str → Option Value} {A : Around} {s : Shared} {E : Value → Shared → Prop}

set_option maxRecDepth 20000 in
set_option maxHeartbeats 2000000 in
theorem check_ok {x : Str} {t : Tok} {Q : Value → Shared → Prop} (W : Wd w mg mb s.heap) (hh : A.handled = none) (hroom : A.depth + 2 < recursionLimit) (hB : AllBare s.gens) (hlen : x.length ≤ 1000)
    (hQ : ∀ h' tk G, Kp s.heap h' → AllBare G → Q (.bool (checkP x)) { s with heap := h', toks := tk, gens := G }) :
    wpAny (model pr w) A (call (.ref 35) [.str x t]) Q E s := by
  have hcd : s.heap.CodeRec (.ref 34) (Str.ofString "_check_parenthesis") := ⟨34, _, _, _, rfl, W.K 34 _ rfl, rfl, rfl⟩
  refine wpAny_call (call_pos_ret (Nat.lt_of_succ_lt (Nat.lt_of_succ_lt hroom)) (W.K 35 _ rfl) rfl W.lim hcd rfl (locs rfl) fun h₁ F => ?_)
  have hmf : mg (Str.ofString "_iter_escaped_chars") = some (.ref 21) := mg_of W.K W.g (by with_unfolding_all rfl)
  have hms : mg (Str.ofString "_strip_quoted_realnames") = some (.ref 28) := mg_of W.K W.g (by with_unfolding_all rfl)
  refine wpAny_execs_cons (wpAny_Assign_Name (Call_ (Name_function_global rfl rfl (loadGlobal_global (W.g.keeps F.keep) hms
      (callWith_K W.K (by with_unfolding_all rfl) (args_cons (wpAny_Name (wpAny_loadName_local rfl rfl F.ns rfl (args_nil ⟨W.K.keeps F.keep, ?_⟩)))))))))
  refine strip_ok (W.keeps F.keep) hh hroom hB hlen fun h₂ tk₂ G₂ t₂ hk₂ hB₂ => ?_
  have F₂ : Fr s.heap s.heap.objs.size h₂ _ := ⟨F.ns.keeps hk₂, fun b o e => hk₂ b o (F.keep b o e), F.above⟩
  refine st F₂ fun h₃ F₃ => ?_
  refine wpAny_execs_cons (wpAny_Assign_Name (wpAny_Constant_int (st F₃ fun h₄ F₄ => ?_)))
  dsimp only at F₄ ⊢
  generalize hT : escItems (stripS x).cps.toList 0 false = T
  refine wpAny_execs_cons (wpAny_For (Call_ (Name_function_global rfl rfl (loadGlobal_global (W.g.keeps F₄.keep) hmf
      (callWith_K W.K (by with_unfolding_all rfl) (args_cons (wpAny_Name (wpAny_loadName_local rfl rfl F₄.ns rfl (args_nil ⟨W.K.keeps F₄.keep, ?_⟩)))))))))
  refine esc_made (W.keeps F₄.keep) hh (Nat.lt_of_succ_lt hroom) fun h₅ tk₅ G₅ hk₅ hB₅ hE => ?_
  rw [hT] at hE
  dsimp only at hE hk₅ hB₅
  refine wpAny_pyIter_gen hE.2.1 ?_
  refine esc_for (w := w) (mg := mg) (mb := mb) (hb := s.heap) (m := _) (J := fun i m h => ∃ o to, m (Str.ofString "opens") = some (.int o to) ∧ parRun 0 T = parRun o (T.drop i))
      hh (Nat.lt_of_succ_lt hroom) W rfl rfl rfl (F₄.ns.lt) (Heap.get?_none_of_le (Nat.le_refl _)) (Nat.le_trans F₄.above (Nat.le_of_lt F₄.ns.lt)) ?_ hE (F₄.ns.keeps hk₅) (fun b o e => hk₅ b o (F₄.keep b o e)) (hB₅ hB₂) ?_ ?_ ?_
  · rintro i m h h' hJ hk'
    exact hJ
  · exact ⟨0, _, rfl, rfl⟩
  · rintro i j y ty u m h tk G hx ⟨o, to, a1, a2⟩ hn hk hLh hBG
    rw [drop_get hx] at a2
    have base : ∀ (h₂ : Heap), Heap.SameBut s.heap.objs.size h h₂ → Kp s.heap h₂ ∧ ∀ b o, h₄.objs.size ≤ b → h.get? b = some o → h₂.get? b = some o := fun h₂ k2 =>
        ⟨fun b o e => k2.extBut b o (Nat.ne_of_lt (Heap.lt_size e)) (hk b o e), fun b o hb e => k2.extBut b o (Nat.ne_of_gt (Nat.lt_of_lt_of_le F₄.ns.lt hb)) e⟩
    refine wpAny_execs_cons (wpAny_If (wpAny_isTrue_Compare1 (wpAny_Name (wpAny_loadName_local rfl rfl hn rfl (wpAny_Constant_str (PyProof.Rows.eq_str (wpAny_truthy_bool ?_)))))))
    by_cases h1 : y = ⟨#[40]⟩
    · subst h1
      rw [opn_eq, if_pos rfl]
      refine wpAny_execs_cons (wpAny_AugAssign_Name (wpAny_loadName_local rfl rfl hn a1 (wpAny_Constant_int (wpAny_iadd_int (wpAny_storeName_local rfl hn (fun h₆ hn₆ hs₆ => ?_) rfl)))))
      refine wpAny_execs_nil (wpAny_execs_nil ?_)
      have hb := base h₆ hs₆
      exact ⟨h₆, _, _, rfl, hn₆, hb.1, hb.2, o + 1, _, rfl, by rw [a2, parRun, if_pos rfl]⟩
    · rw [opn_ne h1, if_neg Bool.false_ne_true]
      refine wpAny_execs_cons (wpAny_If (wpAny_isTrue_Compare1 (wpAny_Name (wpAny_loadName_local rfl rfl hn rfl (wpAny_Constant_str (PyProof.Rows.eq_str (wpAny_truthy_bool ?_)))))))
      by_cases h2 : y = ⟨#[41]⟩
      · subst h2
        rw [cls_eq, if_pos rfl]
        refine wpAny_execs_cons (wpAny_AugAssign_Name (wpAny_loadName_local rfl rfl hn a1 (wpAny_Constant_int (isub_int (wpAny_storeName_local rfl hn (fun h₆ hn₆ hs₆ => ?_) rfl)))))
        refine wpAny_execs_cons (wpAny_If (wpAny_isTrue_Compare1 (wpAny_Name (wpAny_loadName_local rfl rfl hn₆ rfl (wpAny_Constant_int (PyProof.Rows.lt_int (wpAny_truthy_bool ?_)))))))
        have hb := base h₆ hs₆
        by_cases h3 : o - 1 < 0
        · rw [decide_eq_true h3, if_pos rfl]
          refine wpAny_execs_cons (wpAny_Return_some (wpAny_Constant_bool ?_))
          have e : checkP x = false := by rw [checkP, hT, a2, parRun, if_neg h1, if_pos rfl, if_pos h3]
          have := fun tk => hQ h₆ tk G hb.1 hBG
          rw [e] at this
          exact this _
        · rw [decide_eq_false h3, if_neg Bool.false_ne_true]
          refine wpAny_execs_nil (wpAny_execs_nil (wpAny_execs_nil (wpAny_execs_nil ?_)))
          exact ⟨h₆, _, _, rfl, hn₆, hb.1, hb.2, o - 1, _, rfl, by rw [a2, parRun, if_neg h1, if_pos rfl, if_neg h3]⟩
      · rw [cls_ne h2, if_neg Bool.false_ne_true]
        refine wpAny_execs_nil (wpAny_execs_nil (wpAny_execs_nil ?_))
        exact ⟨h, _, _, rfl, hn, hk, fun b o _ e => e, o, to, a1, by rw [a2, parRun, if_neg h1, if_neg h2]⟩
  · rintro m h tk G ⟨o, to, a1, a2⟩ hn hk hBG
    rw [List.drop_length, parRun] at a2
    refine wpAny_execs_cons (wpAny_Return_some (wpAny_Compare1 (wpAny_Name (wpAny_loadName_local rfl rfl hn a1 (wpAny_Constant_int (PyProof.Rows.eq_int ?_))))))
    have e : checkP x = (o == 0) := by rw [checkP, hT, a2]
    have := fun tk => hQ h tk G hk hBG
    rw [e] at this
    exact this _
end
end Mine
end

section
open PySem PySem.W PyProof.Rows PySem.Calls
namespace Mine

def badS : Str := Str.ofString "('', '')"
def preS (x : Str) : Str := if checkP x then x else badS

section
variable {w : World} {mg mb : Str → Option Value} {A : Around} {s : Shared} {E : Value → Shared → Prop}

set_option maxRecDepth 20000 in
set_option maxHeartbeats 2000000 in
theorem pre_ok {l : Addr} {ls : List (Str × Tok)} {Q : Value → Shared → Prop} (W : Wd w mg mb s.heap) (hh : A.handled = none) (hroom : A.depth + 3 < recursionLimit) (hB : AllBare s.gens)
    (hl : s.heap.IsList l (strValues ls).toArray) (hlen : ∀ p ∈ ls, p.1.length ≤ 1000) (hnl : ls.length ≤ 1000)
    (hQ : ∀ h' tk G r ls', Kp s.heap h' → AllBare G → s.heap.get? r = none → PlainL h' r (strValues ls').toArray → ls'.map (·.1) = ls.map (fun p => preS p.1) → Q (.ref r) { s with heap := h', toks := tk, gens := G }) :
    wpAny (model pr w) A (call (.ref 42) [.ref l]) Q E s := by
  have hcd : s.heap.CodeRec (.ref 41) (Str.ofString "_pre_parse_validation") := ⟨41, _, _, _, rfl, W.K 41 _ rfl, rfl, rfl⟩
  refine wpAny_call (call_pos_ret (Nat.lt_of_le_of_lt (Nat.le_add_right _ 3) hroom) (W.K 42 _ rfl) rfl W.lim hcd rfl (locs rfl) fun h₁ F => ?_)
  have hmf : mg (Str.ofString "_check_parenthesis") = some (.ref 35) := mg_of W.K W.g (by with_unfolding_all rfl)
  refine wpAny_execs_cons (wpAny_Assign_Name (wpAny_List (wpAny_items_nil ⟨by size_fits, stN (F.push _) (News.push F News.nil _) fun h₄ F₄ N₄ => ?_⟩)))
  dsimp only at F₄ N₄ ⊢
  obtain ⟨r, hr⟩ : ∃ r, r = h₁.objs.size := ⟨_, rfl⟩
  rw [← hr] at F₄ N₄
  have hNr := N₄ (r, _) (List.mem_singleton.mpr rfl)
  have hrne : r ≠ s.heap.objs.size := hNr.2.1
  refine wpAny_execs_cons (wpAny_For (wpAny_Name (wpAny_loadName_local rfl rfl F₄.ns rfl ?_)))
  have hl₄ : h₄.IsList l (strValues ls).toArray := hl.at fun o e => F₄.keep l o e
  refine wpAny_pyIter_list hl₄ ?_
  dsimp only
  obtain ⟨I, hI⟩ : ∃ I, I = h₄.objs.size := ⟨_, rfl⟩
  rw [← hI]
  have hIL : s.heap.objs.size ≠ I := hI ▸ Nat.ne_of_lt F₄.ns.lt
  have hIr : r ≠ I := hI ▸ Nat.ne_of_lt (Heap.lt_size hNr.1)
  have hIs : s.heap.get? I = none := Heap.get?_none_of_le (hI ▸ Nat.le_of_lt (Nat.lt_of_le_of_lt (Nat.le_refl _) F₄.ns.lt))
  refine codeAny_forLoop (I := fun k s' => ∃ i m h tk G ls', s' = { s with heap := h, toks := tk, gens := G } ∧ k = ls.length + 1 - i ∧ i ≤ ls.length ∧ h.IsListIter I l i ∧ Fr s.heap s.heap.objs.size h m ∧
      m (Str.ofString "accepted_values") = some (.ref r) ∧ PlainL h r (strValues ls').toArray ∧ ls'.map (·.1) = (ls.take i).map (fun p => preS p.1) ∧ AllBare G) ?_ (ls.length + 1)
    ⟨0, _, _, _, s.gens, [], rfl, rfl, Nat.zero_le _, ⟨_, get_push hI.symm rfl, rfl, rfl⟩, F₄.push _, rfl, ⟨_, _, Heap.get?_push_of_some _ hNr.1, rfl, rfl, rfl⟩, rfl, hB⟩
  rintro k s' ⟨i, m, h, tk, G, ls', rfl, rfl, hi, hit, Fi, a1, hP, a2, hBG⟩
  have hli : h.IsList l (strValues ls).toArray := hl.at fun o e => Fi.keep l o e
  have hlI : l ≠ I := by
    obtain ⟨o, ho, _⟩ := hl
    exact fun q => by rw [q, hIs] at ho; cases ho
  have hll : ls'.length = i := by
    have := congrArg List.length a2
    simpa [Nat.min_eq_left hi] using this
  by_cases hlt : i < ls.length
  · obtain ⟨p, hp⟩ : ∃ p, ls[i]? = some p := ⟨_, List.getElem?_eq_getElem hlt⟩
    obtain ⟨x, t⟩ := p
    have hx : (strValues ls).toArray[i]? = some (.str x t) := by simp [strValues, hp]
    refine wpAny_pyNext_list_item hit hli hx fun h₂ hit₂ hs₂ => ?_
    dsimp only at hs₂ hit₂ ⊢
    have k2 : ∀ b o, b ≠ I → h.get? b = some o → h₂.get? b = some o := fun b o hb e => hs₂.extBut b o hb e
    have F₂ : Fr s.heap s.heap.objs.size h₂ m := ⟨Fi.ns.at' fun o e => k2 _ o hIL e, fun b o e => k2 b o (fun q => by rw [q, hIs] at e; cases e) (Fi.keep b o e), Fi.above⟩
    refine wpAny_assign_Name (wpAny_storeName_local rfl F₂.ns (fun h₃ hn₃ hs₃ => ?_) rfl)
    dsimp only at hn₃ hs₃ ⊢
    have F₃ := F₂.set hn₃ hs₃
    refine wpAny_execs_cons (wpAny_If (wpAny_isTrue_Not (wpAny_isTrue_value (Call_ (Name_function_global rfl rfl (loadGlobal_global (W.g.keeps F₃.keep) hmf
      (callWith_K W.K (by with_unfolding_all rfl) (args_cons (wpAny_Name (wpAny_loadName_local rfl rfl F₃.ns rfl (args_nil ⟨W.K.keeps F₃.keep, ?_⟩)))))))))))
    refine check_ok (W.keeps F₃.keep) hh hroom hBG (hlen _ (List.mem_of_getElem? hp)) fun h₅ tk₅ G₅ hk₅ hB₅ => wpAny_truthy_bool ?_
    dsimp only at hk₅ ⊢
    have k5 : ∀ b o, b ≠ I → b ≠ s.heap.objs.size → h.get? b = some o → h₅.get? b = some o := fun b o h1 h2 e => hk₅ b o (hs₃.extBut b o h2 (k2 b o h1 e))
    have F₅ : Fr s.heap s.heap.objs.size h₅ _ := ⟨F₃.ns.keeps hk₅, fun b o e => hk₅ b o (F₃.keep b o e), F₃.above⟩
    have hit₅ : h₅.IsListIter I l (i + 1) := hit₂.at fun o e => hk₅ _ o (hs₃.extBut _ o (Ne.symm hIL) e)
    have hP₅ : PlainL h₅ r (strValues ls').toArray := by
      obtain ⟨o, n, ho, hr'⟩ := hP
      exact ⟨o, n, k5 r o hIr hrne ho, hr'⟩
    have app : ∀ (m₆ : Str → Option Value) (h₆ : Heap) (tk₆ : Nat) (u : Tok), Fr s.heap s.heap.objs.size h₆ m₆ → m₆ (Str.ofString "accepted_values") = some (.ref r) → PlainL h₆ r (strValues ls').toArray → h₆.IsListIter I l (i + 1) →
        ∀ h₇, PlainL h₇ r ((strValues ls').toArray.push (.str (preS x) u)) → Heap.SameBut r h₆ h₇ →
        ∃ k', k' < ls.length + 1 - i ∧ ∃ i' m h tk G' ls', ({ s with heap := h₇, toks := tk₆, gens := G₅ } : Shared) = { s with heap := h, toks := tk, gens := G' } ∧ k' = ls.length + 1 - i' ∧ i' ≤ ls.length ∧ h.IsListIter I l i' ∧ Fr s.heap s.heap.objs.size h m ∧
          m (Str.ofString "accepted_values") = some (.ref r) ∧ PlainL h r (strValues ls').toArray ∧ ls'.map (·.1) = (ls.take i').map (fun p => preS p.1) ∧ AllBare G' := by
      intro m₆ h₆ tk₆ u q1 q2 q3 q4 h₇ q5 q6
      rw [push_strs] at q5
      refine ⟨ls.length + 1 - (i + 1), by omega, i + 1, m₆, h₇, tk₆, G₅, ls' ++ [(preS x, u)], rfl, rfl, hlt, q4.at fun o e => q6.extBut _ o (Ne.symm hIr) e, ?_, q2, q5, ?_, hB₅⟩
      · exact ⟨q1.ns.sameBut q6 (Ne.symm hrne), fun b o e => q6.extBut b o (fun q => by rw [q, hNr.2.2] at e; cases e) (q1.keep b o e), q1.above⟩
      · rw [List.map_append, a2, List.take_add_one, hp]; simp
    cases hcp : checkP x with
    | false =>
      rw [show (!false) = true from rfl, if_pos rfl]
      refine wpAny_execs_cons (wpAny_Assign_Name (wpAny_Constant_str (wpAny_storeName_local rfl F₅.ns (fun h₆ hn₆ hs₆ => wpAny_execs_nil ?_) rfl)))
      have F₆ := F₅.set hn₆ hs₆
      have hP₆ := hP₅.extBut hs₆.extBut hrne
      have e : preS x = badS := by rw [preS, hcp]; rfl
      refine wpAny_execs_cons (wpAny_Expr (wpAny_Call_append rfl rfl rfl rfl (wpAny_Name (wpAny_loadName_local rfl rfl F₆.ns a1 ⟨r, _, rfl, hP₆, wpAny_Name (wpAny_loadName_local rfl rfl F₆.ns rfl (list_append_plainL hP₆ (fun h₇ hP₇ hs₇ => wpAny_execs_nil ?_) ?_))⟩))))
      · exact app _ h₆ _ _ F₆ a1 hP₆ (hit₅.at fun o q => hs₆.extBut _ o (Ne.symm hIL) q) h₇ (by rw [e]; exact hP₇) hs₇
      · simp [strValues]; rw [sizeLine_eq]; omega
    | true =>
      rw [show (!true) = false from rfl, if_neg Bool.false_ne_true]
      have e : preS x = x := by rw [preS, hcp]; rfl
      refine wpAny_execs_nil (wpAny_execs_cons (wpAny_Expr (wpAny_Call_append rfl rfl rfl rfl (wpAny_Name (wpAny_loadName_local rfl rfl F₅.ns a1 ⟨r, _, rfl, hP₅, wpAny_Name (wpAny_loadName_local rfl rfl F₅.ns rfl (list_append_plainL hP₅ (fun h₇ hP₇ hs₇ => wpAny_execs_nil ?_) ?_))⟩)))))
      · exact app _ h₅ _ _ F₅ a1 hP₅ hit₅ h₇ (e.symm ▸ hP₇) hs₇
      · simp [strValues]; rw [sizeLine_eq]; omega
  · have hin : i = ls.length := Nat.le_antisymm hi (Nat.not_lt.mp hlt)
    refine wpAny_pyNext_list_end hh hit hli (by simp [strValues, hin]) fun h₂ he₂ => wpAny_execs_nil ?_
    dsimp only at he₂ ⊢
    have k2 : ∀ b o, b ≠ I → h.get? b = some o → h₂.get? b = some o := fun b o hb e => he₂ b o hb e
    refine wpAny_execs_cons (wpAny_Return_some (wpAny_Name (wpAny_loadName_local rfl rfl (Fi.ns.at' fun o e => k2 _ o hIL e) a1 ?_)))
    refine hQ h₂ _ G r ls' (fun b o e => k2 b o (fun q => by rw [q, hIs] at e; cases e) (Fi.keep b o e)) hBG hNr.2.2 ?_ ?_
    · obtain ⟨o, n, ho, hr'⟩ := hP
      exact ⟨o, n, k2 r o hIr ho, hr'⟩
    · rw [a2, hin, List.take_length]
end
end Mine
end

section
open PySem PySem.W PyProof.Rows PySem.Calls
namespace Mine

def bisLoop (p : Nat → Bool) : Nat → Nat → Nat → Nat
  | 0, lo, _ => lo
  | n + 1, lo, hi => if lo < hi then (if p ((lo + hi) / 2) then bisLoop p n ((lo + hi) / 2 + 1) hi else bisLoop p n lo ((lo + hi) / 2)) else lo
def ltS (x y : Str) : Bool := decide (x.cps.toList < y.cps.toList)
def bisL (ts : List Str) (x : Str) : Nat := bisLoop (fun i => ltS (ts.getD i ⟨#[]⟩) x) ts.length 0 ts.length
def bisR (ts : List Str) (x : Str) : Nat := bisLoop (fun i => !ltS x (ts.getD i ⟨#[]⟩)) ts.length 0 ts.length

section
variable {w : World} {mg mb : Str → Option Value} {A : Around} {s : Shared} {E : Value → Shared → Prop}

set_option maxRecDepth 20000 in
set_option maxHeartbeats 2000000 in
theorem bisl_ok {l : Addr} {ls : List (Str × Tok)} {x : Str} {t : Tok} {Q : Value → Shared → Prop} (W : Wd w mg mb s.heap) (hroom : A.depth < recursionLimit)
    (hl : s.heap.IsList l (strValues ls).toArray) (hnl : ls.length ≤ 1000)
    (hQ : ∀ h' tk t', Kp s.heap h' → Q (.int (bisL (ls.map (·.1)) x) t') { s with heap := h', toks := tk }) :
    wpAny (model pr w) A (call (.ref 60) [.ref l, .str x t]) Q E s := by
  have hcd : s.heap.CodeRec (.ref 59) (Str.ofString "bisect_left") := ⟨59, _, _, _, rfl, W.K 59 _ rfl, rfl, rfl⟩
  refine wpAny_call (codeAny_call_function hroom (W.K 60 _ rfl) rfl rfl rfl rfl hcd ?_)
  refine Looks.here (Looks.of_peek W.K (r := [(Str.ofString "a", .ref l), (Str.ofString "x", .str x t), (Str.ofString "lo", .int 0 246), (Str.ofString "hi", .none), (Str.ofString "key", .none)]) (by with_unfolding_all rfl)) ?_
  refine wpAny_newFunctionEnv (by decide) (locs rfl) (fun h₁ hn₁ hs₁ => ⟨W.lim.fresh _ hs₁, codeAny_func ?_⟩) rfl
  dsimp only at hn₁ hs₁ ⊢
  have F : Fr s.heap s.heap.objs.size h₁ _ := ⟨hn₁, fun b o e => hs₁.extBut b o (Nat.ne_of_lt (Heap.lt_size e)) (Heap.get?_push_of_some _ e), Nat.le_refl _⟩
  have hml : mg (Str.ofString "len") = none := mg_none_of W.K W.g (by with_unfolding_all rfl)
  refine wpAny_execs_cons (wpAny_If (wpAny_isTrue_Compare1 (wpAny_Name (wpAny_loadName_local rfl rfl hn₁ rfl (wpAny_Constant_int (PyProof.Rows.lt_int (wpAny_truthy_bool ?_)))))))
  rw [show decide ((0 : Int) < 0) = false from rfl, if_neg Bool.false_ne_true]
  refine wpAny_execs_nil (wpAny_execs_cons (wpAny_If (wpAny_isTrue_Compare1 (wpAny_Name (wpAny_loadName_local rfl rfl hn₁ rfl (wpAny_Constant_none (is_none (wpAny_truthy_bool ?_))))))))
  rw [show (Value.none == Value.none) = true from rfl, if_pos rfl]
  have hl₁ : h₁.IsList l (strValues ls).toArray := hl.at fun o e => F.keep l o e
  have hsz : (strValues ls).toArray.size = ls.length := by simp [strValues]
  refine wpAny_execs_cons (wpAny_Assign_Name (Call_ (Name_function_global rfl rfl (loadGlobal_builtin (W.g.keeps F.keep) hml (W.b.keeps F.keep) ((W.bb _ (by decide)).trans boot_len)
        (callWith_builtin1 (args_cons (wpAny_Name (wpAny_loadName_local rfl rfl hn₁ rfl (args_nil (PyProof.Rows.len_list hl₁ (by rw [hsz]; omega) ?_))))))))))
  rw [hsz]
  refine wpAny_storeName_local rfl hn₁ (fun h₂ hn₂ hs₂ => wpAny_execs_nil ?_) rfl
  dsimp only at hn₂ hs₂ ⊢
  have F₂ := F.set hn₂ hs₂
  refine wpAny_execs_cons (wpAny_If (wpAny_isTrue_Compare1 (wpAny_Name (wpAny_loadName_local rfl rfl hn₂ rfl (wpAny_Constant_none (is_none (wpAny_truthy_bool ?_)))))))
  rw [show (Value.none == Value.none) = true from rfl, if_pos rfl]
  refine wpAny_execs_cons (wpAny_While (codeAny_whileLoop (I := fun n s' => ∃ lo hi tl th m h tk, s' = { s with heap := h, toks := tk } ∧ Fr s.heap s.heap.objs.size h m ∧ m (Str.ofString "a") = some (.ref l) ∧ m (Str.ofString "x") = some (.str x t) ∧
      m (Str.ofString "lo") = some (.int ((lo : Nat) : Int) tl) ∧ m (Str.ofString "hi") = some (.int ((hi : Nat) : Int) th) ∧ hi - lo ≤ n ∧ hi ≤ ls.length ∧ bisL (ls.map (·.1)) x = bisLoop (fun i => ltS ((ls.map (·.1)).getD i ⟨#[]⟩) x) n lo hi) ?_ ls.length
      ⟨0, ls.length, _, _, _, _, _, rfl, F₂, rfl, rfl, rfl, rfl, by simp, Nat.le_refl _, by rw [bisL, List.length_map]⟩))
  rintro n s' ⟨lo, hi, tl, th, m, h, tk, rfl, Fi, a1, a2, a3, a4, a5, a6, a7⟩
  have hli : h.IsList l (strValues ls).toArray := hl.at fun o e => Fi.keep l o e
  refine wpAny_isTrue_Compare1 (wpAny_Name (wpAny_loadName_local rfl rfl Fi.ns a3 (wpAny_Name (wpAny_loadName_local rfl rfl Fi.ns a4 (PyProof.Rows.lt_int (wpAny_truthy_bool ?_))))))
  by_cases hlt : lo < hi
  · rw [decide_eq_true (show ((lo : Nat) : Int) < ((hi : Nat) : Int) from Int.ofNat_lt.mpr hlt), if_pos rfl]
    obtain ⟨n', rfl⟩ : ∃ n', n = n' + 1 := ⟨n - 1, by omega⟩
    rw [bisLoop, if_pos hlt] at a7
    refine wpAny_execs_cons (wpAny_Assign_Name (wpAny_BinOp (wpAny_BinOp (wpAny_Name (wpAny_loadName_local rfl rfl Fi.ns a3 (wpAny_Name (wpAny_loadName_local rfl rfl Fi.ns a4 (PyProof.Rows.add_int (wpAny_Constant_int
      (floordiv_int (by decide) (wpAny_storeName_local rfl Fi.ns (fun h₃ hn₃ hs₃ => ?_) rfl) (Or.inl (PyProof.noPylong_of_log2 (by decide +kernel)))))))))))))
    dsimp only at hn₃ hs₃ ⊢
    have F₃ := Fi.set hn₃ hs₃
    have hmid : (((lo : Nat) : Int) + ((hi : Nat) : Int)).fdiv 2 = (((lo + hi) / 2 : Nat) : Int) := by
      rw [Int.fdiv_eq_ediv_of_nonneg _ (by decide)]
      exact (by omega : ((lo : Int) + (hi : Int)) / 2 = (((lo + hi) / 2 : Nat) : Int))
    rw [hmid] at hn₃ F₃
    have hmlt : (lo + hi) / 2 < ls.length := by omega
    obtain ⟨p, hp⟩ : ∃ p, ls[(lo + hi) / 2]? = some p := ⟨_, List.getElem?_eq_getElem hmlt⟩
    have hli₃ : h₃.IsList l (strValues ls).toArray := hl.at fun o e => F₃.keep l o e
    have hgd : (ls.map (·.1)).getD ((lo + hi) / 2) ⟨#[]⟩ = p.1 := by rw [List.getD_eq_getElem?_getD, List.getElem?_map, hp]; rfl
    refine wpAny_execs_cons (wpAny_If (wpAny_isTrue_Compare1 (Subscript_ (wpAny_Name (wpAny_loadName_local rfl rfl hn₃ a1 (wpAny_Name (wpAny_loadName_local rfl rfl hn₃ rfl
      (item_list (x := .str p.1 p.2) hli₃ (Int.natCast_nonneg _) (by omega) (by rw [Int.toNat_natCast]; simp [strValues, hp]) (wpAny_Name (wpAny_loadName_local rfl rfl hn₃ a2 (PyProof.Rows.lt_str (wpAny_truthy_bool ?_)))))))))))) 
    rw [hgd] at a7
    cases hb : ltS p.1 x with
    | true =>
      rw [show decide (p.1.cps.toList < x.cps.toList) = true from hb, if_pos rfl]
      rw [hb, if_pos rfl] at a7
      refine wpAny_execs_cons (wpAny_Assign_Name (wpAny_BinOp (wpAny_Name (wpAny_loadName_local rfl rfl hn₃ rfl (wpAny_Constant_int (PyProof.Rows.add_int (wpAny_storeName_local rfl hn₃ (fun h₄ hn₄ hs₄ => ?_) rfl)))))))
      refine wpAny_execs_nil (wpAny_execs_nil ?_)
      exact ⟨n', Nat.lt_succ_self _, (lo + hi) / 2 + 1, hi, _, th, _, h₄, _, rfl, F₃.set hn₄ hs₄, a1, a2, rfl, a4, by omega, a6, a7⟩
    | false =>
      rw [show decide (p.1.cps.toList < x.cps.toList) = false from hb, if_neg Bool.false_ne_true]
      rw [hb, if_neg Bool.false_ne_true] at a7
      refine wpAny_execs_cons (wpAny_Assign_Name (wpAny_Name (wpAny_loadName_local rfl rfl hn₃ rfl (wpAny_storeName_local rfl hn₃ (fun h₄ hn₄ hs₄ => ?_) rfl))))
      refine wpAny_execs_nil (wpAny_execs_nil ?_)
      exact ⟨n', Nat.lt_succ_self _, lo, (lo + hi) / 2, tl, _, _, h₄, _, rfl, F₃.set hn₄ hs₄, a1, a2, a3, rfl, by omega, by omega, a7⟩
  · rw [decide_eq_false (show ¬ ((lo : Nat) : Int) < ((hi : Nat) : Int) from fun h => hlt (Int.ofNat_lt.mp h)), if_neg Bool.false_ne_true]
    refine wpAny_execs_nil (wpAny_execs_nil (wpAny_execs_cons (wpAny_Return_some (wpAny_Name (wpAny_loadName_local rfl rfl Fi.ns a3 ?_)))))
    have e : bisL (ls.map (·.1)) x = lo := by
      rw [a7]
      cases n with
      | zero => rfl
      | succ n => rw [bisLoop, if_neg hlt]
    have := hQ h tk tl Fi.keep
    rw [e] at this
    exact this

set_option maxRecDepth 20000 in
set_option maxHeartbeats 2000000 in
theorem bisr_ok {l : Addr} {ls : List (Str × Tok)} {x : Str} {t : Tok} {Q : Value → Shared → Prop} (W : Wd w mg mb s.heap) (hroom : A.depth < recursionLimit)
    (hl : s.heap.IsList l (strValues ls).toArray) (hnl : ls.length ≤ 1000)
    (hQ : ∀ h' tk t', Kp s.heap h' → Q (.int (bisR (ls.map (·.1)) x) t') { s with heap := h', toks := tk }) :
    wpAny (model pr w) A (call (.ref 51) [.ref l, .str x t]) Q E s := by
  have hcd : s.heap.CodeRec (.ref 50) (Str.ofString "bisect_right") := ⟨50, _, _, _, rfl, W.K 50 _ rfl, rfl, rfl⟩
  refine wpAny_call (codeAny_call_function hroom (W.K 51 _ rfl) rfl rfl rfl rfl hcd ?_)
  refine Looks.here (Looks.of_peek W.K (r := [(Str.ofString "a", .ref l), (Str.ofString "x", .str x t), (Str.ofString "lo", .int 0 232), (Str.ofString "hi", .none), (Str.ofString "key", .none)]) (by with_unfolding_all rfl)) ?_
  refine wpAny_newFunctionEnv (by decide) (locs rfl) (fun h₁ hn₁ hs₁ => ⟨W.lim.fresh _ hs₁, codeAny_func ?_⟩) rfl
  dsimp only at hn₁ hs₁ ⊢
  have F : Fr s.heap s.heap.objs.size h₁ _ := ⟨hn₁, fun b o e => hs₁.extBut b o (Nat.ne_of_lt (Heap.lt_size e)) (Heap.get?_push_of_some _ e), Nat.le_refl _⟩
  have hml : mg (Str.ofString "len") = none := mg_none_of W.K W.g (by with_unfolding_all rfl)
  refine wpAny_execs_cons (wpAny_If (wpAny_isTrue_Compare1 (wpAny_Name (wpAny_loadName_local rfl rfl hn₁ rfl (wpAny_Constant_int (PyProof.Rows.lt_int (wpAny_truthy_bool ?_)))))))
  rw [show decide ((0 : Int) < 0) = false from rfl, if_neg Bool.false_ne_true]
  refine wpAny_execs_nil (wpAny_execs_cons (wpAny_If (wpAny_isTrue_Compare1 (wpAny_Name (wpAny_loadName_local rfl rfl hn₁ rfl (wpAny_Constant_none (is_none (wpAny_truthy_bool ?_))))))))
  rw [show (Value.none == Value.none) = true from rfl, if_pos rfl]
  have hl₁ : h₁.IsList l (strValues ls).toArray := hl.at fun o e => F.keep l o e
  have hsz : (strValues ls).toArray.size = ls.length := by simp [strValues]
  refine wpAny_execs_cons (wpAny_Assign_Name (Call_ (Name_function_global rfl rfl (loadGlobal_builtin (W.g.keeps F.keep) hml (W.b.keeps F.keep) ((W.bb _ (by decide)).trans boot_len)
        (callWith_builtin1 (args_cons (wpAny_Name (wpAny_loadName_local rfl rfl hn₁ rfl (args_nil (PyProof.Rows.len_list hl₁ (by rw [hsz]; omega) ?_))))))))))
  rw [hsz]
  refine wpAny_storeName_local rfl hn₁ (fun h₂ hn₂ hs₂ => wpAny_execs_nil ?_) rfl
  dsimp only at hn₂ hs₂ ⊢
  have F₂ := F.set hn₂ hs₂
  refine wpAny_execs_cons (wpAny_If (wpAny_isTrue_Compare1 (wpAny_Name (wpAny_loadName_local rfl rfl hn₂ rfl (wpAny_Constant_none (is_none (wpAny_truthy_bool ?_)))))))
  rw [show (Value.none == Value.none) = true from rfl, if_pos rfl]
  refine wpAny_execs_cons (wpAny_While (codeAny_whileLoop (I := fun n s' => ∃ lo hi tl th m h tk, s' = { s with heap := h, toks := tk } ∧ Fr s.heap s.heap.objs.size h m ∧ m (Str.ofString "a") = some (.ref l) ∧ m (Str.ofString "x") = some (.str x t) ∧
      m (Str.ofString "lo") = some (.int ((lo : Nat) : Int) tl) ∧ m (Str.ofString "hi") = some (.int ((hi : Nat) : Int) th) ∧ hi - lo ≤ n ∧ hi ≤ ls.length ∧ bisR (ls.map (·.1)) x = bisLoop (fun i => !ltS x ((ls.map (·.1)).getD i ⟨#[]⟩)) n lo hi) ?_ ls.length
      ⟨0, ls.length, _, _, _, _, _, rfl, F₂, rfl, rfl, rfl, rfl, by simp, Nat.le_refl _, by rw [bisR, List.length_map]⟩))
  rintro n s' ⟨lo, hi, tl, th, m, h, tk, rfl, Fi, a1, a2, a3, a4, a5, a6, a7⟩
  have hli : h.IsList l (strValues ls).toArray := hl.at fun o e => Fi.keep l o e
  refine wpAny_isTrue_Compare1 (wpAny_Name (wpAny_loadName_local rfl rfl Fi.ns a3 (wpAny_Name (wpAny_loadName_local rfl rfl Fi.ns a4 (PyProof.Rows.lt_int (wpAny_truthy_bool ?_))))))
  by_cases hlt : lo < hi
  · rw [decide_eq_true (show ((lo : Nat) : Int) < ((hi : Nat) : Int) from Int.ofNat_lt.mpr hlt), if_pos rfl]
    obtain ⟨n', rfl⟩ : ∃ n', n = n' + 1 := ⟨n - 1, by omega⟩
    rw [bisLoop, if_pos hlt] at a7
    refine wpAny_execs_cons (wpAny_Assign_Name (wpAny_BinOp (wpAny_BinOp (wpAny_Name (wpAny_loadName_local rfl rfl Fi.ns a3 (wpAny_Name (wpAny_loadName_local rfl rfl Fi.ns a4 (PyProof.Rows.add_int (wpAny_Constant_int
      (floordiv_int (by decide) (wpAny_storeName_local rfl Fi.ns (fun h₃ hn₃ hs₃ => ?_) rfl) (Or.inl (PyProof.noPylong_of_log2 (by decide +kernel)))))))))))))
    dsimp only at hn₃ hs₃ ⊢
    have F₃ := Fi.set hn₃ hs₃
    have hmid : (((lo : Nat) : Int) + ((hi : Nat) : Int)).fdiv 2 = (((lo + hi) / 2 : Nat) : Int) := by
      rw [Int.fdiv_eq_ediv_of_nonneg _ (by decide)]
      exact (by omega : ((lo : Int) + (hi : Int)) / 2 = (((lo + hi) / 2 : Nat) : Int))
    rw [hmid] at hn₃ F₃
    have hmlt : (lo + hi) / 2 < ls.length := by omega
    obtain ⟨p, hp⟩ : ∃ p, ls[(lo + hi) / 2]? = some p := ⟨_, List.getElem?_eq_getElem hmlt⟩
    have hli₃ : h₃.IsList l (strValues ls).toArray := hl.at fun o e => F₃.keep l o e
    have hgd : (ls.map (·.1)).getD ((lo + hi) / 2) ⟨#[]⟩ = p.1 := by rw [List.getD_eq_getElem?_getD, List.getElem?_map, hp]; rfl
    refine wpAny_execs_cons (wpAny_If (wpAny_isTrue_Compare1 (wpAny_Name (wpAny_loadName_local rfl rfl hn₃ a2 (Subscript_ (wpAny_Name (wpAny_loadName_local rfl rfl hn₃ a1 (wpAny_Name (wpAny_loadName_local rfl rfl hn₃ rfl
      (item_list (x := .str p.1 p.2) hli₃ (Int.natCast_nonneg _) (by omega) (by rw [Int.toNat_natCast]; simp [strValues, hp]) (PyProof.Rows.lt_str (wpAny_truthy_bool ?_)))))))))))) 
    rw [hgd] at a7
    cases hb : ltS x p.1 with
    | false =>
      rw [show decide (x.cps.toList < p.1.cps.toList) = false from hb, if_neg Bool.false_ne_true]
      rw [hb, show (!false) = true from rfl, if_pos rfl] at a7
      refine wpAny_execs_cons (wpAny_Assign_Name (wpAny_BinOp (wpAny_Name (wpAny_loadName_local rfl rfl hn₃ rfl (wpAny_Constant_int (PyProof.Rows.add_int (wpAny_storeName_local rfl hn₃ (fun h₄ hn₄ hs₄ => ?_) rfl)))))))
      refine wpAny_execs_nil (wpAny_execs_nil ?_)
      exact ⟨n', Nat.lt_succ_self _, (lo + hi) / 2 + 1, hi, _, th, _, h₄, _, rfl, F₃.set hn₄ hs₄, a1, a2, rfl, a4, by omega, a6, a7⟩
    | true =>
      rw [show decide (x.cps.toList < p.1.cps.toList) = true from hb, if_pos rfl]
      rw [hb, show (!true) = false from rfl, if_neg Bool.false_ne_true] at a7
      refine wpAny_execs_cons (wpAny_Assign_Name (wpAny_Name (wpAny_loadName_local rfl rfl hn₃ rfl (wpAny_storeName_local rfl hn₃ (fun h₄ hn₄ hs₄ => ?_) rfl))))
      refine wpAny_execs_nil (wpAny_execs_nil ?_)
      exact ⟨n', Nat.lt_succ_self _, lo, (lo + hi) / 2, tl, _, _, h₄, _, rfl, F₃.set hn₄ hs₄, a1, a2, a3, rfl, by omega, by omega, a7⟩
  · rw [decide_eq_false (show ¬ ((lo : Nat) : Int) < ((hi : Nat) : Int) from fun h => hlt (Int.ofNat_lt.mp h)), if_neg Bool.false_ne_true]
    refine wpAny_execs_nil (wpAny_execs_nil (wpAny_execs_cons (wpAny_Return_some (wpAny_Name (wpAny_loadName_local rfl rfl Fi.ns a3 ?_)))))
    have e : bisR (ls.map (·.1)) x = lo := by
      rw [a7]
      cases n with
      | zero => rfl
      | succ n => rw [bisLoop, if_neg hlt]
    have := hQ h tk tl Fi.keep
    rw [e] at this
    exact this
end
end Mine
end

section
open PySem PySem.W PyProof.Rows PySem.Calls
namespace Mine

/-- what feeds a comprehension: the items, bound in its frame -/
structure Feeds (w : World) (A : Around) (target : Expr) (I : Addr) (fp wr : List Addr) (n : Nat) (Bd : Nat → (Str → Option Value) → Prop) (St : Nat → Heap → Prop) (cenv : Env) : Prop where
  sub : ∀ b ∈ wr, b ∈ fp
  frame : ∀ i h h', St i h → (∀ b ∈ fp, ∀ o, h.get? b = some o → h'.get? b = some o) → St i h'
  item : ∀ i (s : Shared) (m : Str → Option Value) (Q : Shared → Prop) (E : Value → Shared → Prop), i < n → St i s.heap → s.heap.Ns cenv.locals m → cenv.locals ∉ fp →
    (∀ h' tk m', Bd i m' → h'.Ns cenv.locals m' → St (i + 1) h' → (∀ b o, b ∉ wr → b ≠ cenv.locals → s.heap.get? b = some o → h'.get? b = some o) → Q { s with heap := h', toks := tk }) →
    wpAny (model pr w) A (pyNext (.ref I)) (fun r s₁ => match r with
      | none => False
      | some v => wpAny (model pr w) A (letOwnedTupleGo target (.ref I) v) (fun _ s₂ => wpAny (model pr w) A (assign target cenv v) (fun _ s₃ => Q s₃) E s₂) E s₁) E s
  done : ∀ (s : Shared) (Q : Shared → Prop) (E : Value → Shared → Prop), St n s.heap → (∀ h' tk, (∀ b o, b ∉ wr → s.heap.get? b = some o → h'.get? b = some o) → Q { s with heap := h', toks := tk }) →
    wpAny (model pr w) A (pyNext (.ref I)) (fun r s₁ => match r with | none => Q s₁ | some _ => False) E s
  self : ∀ i (s : Shared) (Q : Value → Shared → Prop) (E : Value → Shared → Prop), St i s.heap → Q (.ref I) s → wpAny (model pr w) A (pyIter (.ref I)) Q E s

section
variable {w : World} {A : Around} {E : Value → Shared → Prop} {R : Result → Shared → Prop} {s : Shared}

theorem compLoop_any {elt target iter : Expr} {ifs : List Expr} {scope : Scope} {pos : Pos} {it acc : Value} {env : Env} (I : Nat → Shared → Prop)
    (turn : ∀ n s, I n s → wpAny (model pr w) A (pyNext it) (fun r s₁ => match r with
      | none => R (.ok .next) s₁
      | some v => wpAny (model pr w) A (letOwnedTupleGo target it v) (fun _ s₁' => wpAny (model pr w) A (assign target env v) (fun _ s₂ =>
          wpAny (model pr w) A (forIn ifs true fun c r => if r = true then do let ok ← isTrue c env (eval c env); pure (ForInStep.yield ok) else pure (ForInStep.yield r)) (fun ok s₃ =>
            if ok = true then wpAny (model pr w) A (eval elt env) (fun x s₄ =>
              wpAny (model pr w) A (call (.builtin "list.append") [acc, x]) (fun _ s₅ => ∃ m, m < n ∧ I m s₅) (notedBy (model pr w) A env fun e s' => R (.error e) s') s₄) (notedBy (model pr w) A env fun e s' => R (.error e) s') s₃
            else ∃ m, m < n ∧ I m s₃) (notedBy (model pr w) A env fun e s' => R (.error e) s') s₂) (notedBy (model pr w) A env fun e s' => R (.error e) s') s₁') (notedBy (model pr w) A env fun e s' => R (.error e) s') s₁) (notedBy (model pr w) A env fun e s' => R (.error e) s') s)
    (n : Nat) (h : I n s) :
    codeAny (model pr w) A (.compLoop (.ListComp elt [⟨target, iter, ifs, 0⟩] scope pos) 0 it acc env) R s := by
  refine codeAny_loop rfl I (fun n s hI => ?_) n h
  show wpAny _ A ((compTurn (.ListComp elt [⟨target, iter, ifs, 0⟩] scope pos) 0 it acc env).onRaise (fun x => do noteFrame x env; theTreesLotGoes x)) _ _ s
  refine wpAny_noted ?_
  rw [compTurn_list]
  refine wpAny_bind (wpAny_standAt (wpAny_bind (wpAny_mono (turn n s hI) (fun r s₁ h₁ => ?_) fun _ _ h' => h')))
  cases r with
  | none => exact wpAny_pure h₁
  | some v =>
    refine wpAny_bind (wpAny_mono h₁ (fun _ s₁' h₁' => ?_) fun _ _ h' => h')
    refine wpAny_bind (wpAny_mono h₁' (fun _ s₂ h₂ => wpAny_bind (wpAny_mono h₂ (fun ok s₃ h₃ => ?_) fun _ _ h' => h')) fun _ _ h' => h')
    cases ok with
    | false => exact wpAny_pure ⟨rfl, h₃⟩
    | true =>
      exact wpAny_bind (wpAny_bind (wpAny_mono h₃ (fun x s₄ h₄ => wpAny_bind (wpAny_mono h₄ (fun _ s₅ h₅ => wpAny_pure (wpAny_pure ⟨rfl, h₅⟩)) fun _ _ h' => h')) fun _ _ h' => h'))

theorem range_filter_succ (p : Nat → Bool) (i : Nat) : (List.range (i + 1)).filter p = (List.range i).filter p ++ (if p i then [i] else []) := by
  rw [List.range_succ, List.filter_append]
  cases hp : p i <;> simp [hp]

theorem comp_loop {elt target iter : Expr} {ifs : List Expr} {scope : Scope} {pos : Pos} {I D : Addr} {fp wr : List Addr} {n : Nat} {Bd : Nat → (Str → Option Value) → Prop} {St : Nat → Heap → Prop} {cenv : Env} {m : Str → Option Value}
    (Fd : Feeds w A target I fp wr n Bd St cenv) (p : Nat → Bool) (F : Nat → Value → Heap → Prop)
    (hF : ∀ i v h h', F i v h → (∀ b o, b ≠ cenv.locals → b ∉ wr → b ≠ D → h.get? b = some o → h'.get? b = some o) → F i v h')
    (hDC : D ≠ cenv.locals) (hDf : D ∉ fp) (hCf : cenv.locals ∉ fp)
    (hst : St 0 s.heap) (hacc : PlainL s.heap D #[]) (hn : s.heap.Ns cenv.locals m)
    (tests : ∀ i h tk m₂ E', i < n → Bd i m₂ → h.Ns cenv.locals m₂ → (∀ b o, b ≠ cenv.locals → b ∉ wr → b ≠ D → s.heap.get? b = some o → h.get? b = some o) →
      wpAny (model pr w) A (forIn ifs true fun c r => if r = true then do let ok ← isTrue c cenv (eval c cenv); pure (ForInStep.yield ok) else pure (ForInStep.yield r))
        (fun ok s₃ => ok = p i ∧ Keeps { s with heap := h, toks := tk } s₃) E' { s with heap := h, toks := tk })
    (helt : ∀ i h tk m₂ E', i < n → p i = true → Bd i m₂ → h.Ns cenv.locals m₂ → (∀ b o, b ≠ cenv.locals → b ∉ wr → b ≠ D → s.heap.get? b = some o → h.get? b = some o) →
      wpAny (model pr w) A (eval elt cenv) (fun y s₃ => F i y s₃.heap ∧ Keeps { s with heap := h, toks := tk } s₃) E' { s with heap := h, toks := tk })
    (hR : ∀ h' tk m' (ys : List Value), h'.Ns cenv.locals m' → PlainL h' D ys.toArray → Paired (fun i y => F i y h') ((List.range n).filter p) ys →
      (∀ b o, b ≠ cenv.locals → b ∉ wr → b ≠ D → s.heap.get? b = some o → h'.get? b = some o) → R (.ok .next) { s with heap := h', toks := tk })
    (hsz : n ≤ 1000) :
    codeAny (model pr w) A (.compLoop (.ListComp elt [⟨target, iter, ifs, 0⟩] scope pos) 0 (.ref I) (.ref D) cenv) R s := by
  refine compLoop_any (I := fun k s' => ∃ i h tk m₂ ys, s' = { s with heap := h, toks := tk } ∧ k = n + 1 - i ∧ i ≤ n ∧ St i h ∧ h.Ns cenv.locals m₂ ∧ PlainL h D (List.toArray ys) ∧ Paired (fun i y => F i y h) ((List.range i).filter p) ys ∧
      (∀ b o, b ≠ cenv.locals → b ∉ wr → b ≠ D → s.heap.get? b = some o → h.get? b = some o)) ?_ (n + 1)
    ⟨0, s.heap, s.toks, m, [], rfl, rfl, Nat.zero_le _, hst, hn, hacc, .nil, fun _ _ _ _ _ e => e⟩
  rintro k s' ⟨i, h, tk, m₂, ys, rfl, rfl, hi, hst', hn', hP, hPr, hk⟩
  have hDw : D ∉ wr := fun q => hDf (Fd.sub _ q)
  have hCw : cenv.locals ∉ wr := fun q => hCf (Fd.sub _ q)
  by_cases hlt : i < n
  · refine wpAny_mono (Fd.item i _ m₂ (fun s₃ => ∃ h' tk' m', s₃ = { s with heap := h', toks := tk' } ∧ Bd i m' ∧ h'.Ns cenv.locals m' ∧ St (i + 1) h' ∧ (∀ b o, b ∉ wr → b ≠ cenv.locals → h.get? b = some o → h'.get? b = some o)) (fun e s' => notedBy (model pr w) A cenv (fun e s' => R (.error e) s') e s') hlt hst' hn' hCf
      fun h' tk' m' q1 q2 q3 q4 => ⟨h', tk', m', rfl, q1, q2, q3, q4⟩) (fun r s₁ hr => ?_) fun _ _ e => e
    cases r with
    | none => exact hr.elim
    | some v =>
      refine wpAny_mono hr (fun _ s₂ h₂ => wpAny_mono h₂ (fun _ s₃ h₃ => ?_) fun _ _ e => e) fun _ _ e => e
      obtain ⟨h₃, tk₃, m₃, rfl, q1, q2, q3, q4⟩ := h₃
      have hk₃ : ∀ b o, b ≠ cenv.locals → b ∉ wr → b ≠ D → s.heap.get? b = some o → h₃.get? b = some o := fun b o b1 b2 b3 e => q4 b o b2 b1 (hk b o b1 b2 b3 e)
      refine wpAny_mono (tests i h₃ tk₃ m₃ _ hlt q1 q2 hk₃) (fun ok s₄ h₄ => ?_) fun _ _ e => e
      obtain ⟨rfl, h₄, tk₄, rfl, hk₄⟩ := h₄
      dsimp only at hk₄
      have up : ∀ b o, b ≠ cenv.locals → b ∉ wr → b ≠ D → h.get? b = some o → h₄.get? b = some o := fun b o b1 b2 b3 e => hk₄ b o (q4 b o b2 b1 e)
      have hP₄ : PlainL h₄ D ys.toArray := by
        obtain ⟨o, nn, ho, hr'⟩ := hP
        exact ⟨o, nn, hk₄ _ o (q4 D o hDw hDC ho), hr'⟩
      have hPr₄ : Paired (fun i y => F i y h₄) ((List.range i).filter p) ys := hPr.mono fun a b q => hF a b _ _ q up
      have hst₄ : St (i + 1) h₄ := Fd.frame _ _ _ q3 fun b _ o e => hk₄ b o e
      have hkk₄ : ∀ b o, b ≠ cenv.locals → b ∉ wr → b ≠ D → s.heap.get? b = some o → h₄.get? b = some o := fun b o b1 b2 b3 e => hk₄ b o (hk₃ b o b1 b2 b3 e)
      cases hpi : p i with
      | false =>
        rw [if_neg Bool.false_ne_true]
        refine ⟨n + 1 - (i + 1), by omega, i + 1, h₄, tk₄, m₃, ys, rfl, rfl, hlt, hst₄, q2.keeps hk₄, hP₄, ?_, hkk₄⟩
        rw [range_filter_succ, hpi]; simpa using hPr₄
      | true =>
        rw [if_pos rfl]
        refine wpAny_mono (helt i h₄ tk₄ m₃ _ hlt hpi q1 (q2.keeps hk₄) hkk₄) (fun y s₅ h₅ => ?_) fun _ _ e => e
        obtain ⟨hFy, h₅, tk₅, rfl, hk₅⟩ := h₅
        dsimp only at hk₅ hFy
        have hlen : ys.length ≤ 1000 := by
          have h1 := hPr₄.length
          have h2 : ((List.range i).filter p).length ≤ i := by simpa using List.length_filter_le p (List.range i)
          omega
        refine list_append_plainL (hP₄.keeps hk₅) (fun h₆ hP₆ hs₆ => ?_) (by rw [sizeLine_eq]; simp; omega)
        dsimp only at hs₆
        have up₆ : ∀ b o, b ≠ D → h₄.get? b = some o → h₆.get? b = some o := fun b o b1 e => hs₆.extBut b o b1 (hk₅ b o e)
        refine ⟨n + 1 - (i + 1), by omega, i + 1, h₆, tk₅, m₃, ys ++ [y], rfl, rfl, hlt, ?_, ?_, ?_, ?_, fun b o b1 b2 b3 e => up₆ b o b3 (hkk₄ b o b1 b2 b3 e)⟩
        · exact Fd.frame _ _ _ hst₄ fun b hb o e => up₆ b o (fun q => hDf (q ▸ hb)) e
        · exact (q2.keeps hk₄).at' fun o e => up₆ _ o (Ne.symm hDC) e
        · simpa using hP₆
        · rw [range_filter_succ, hpi]
          exact Paired.snoc (hPr₄.mono fun a b q => hF a b _ _ q fun b o _ _ b3 e => up₆ b o b3 e) (hF _ _ _ _ hFy fun b o _ _ b3 e => hs₆.extBut b o b3 e)
  · have hin : i = n := Nat.le_antisymm hi (Nat.not_lt.mp hlt)
    subst hin
    refine wpAny_mono (Fd.done _ (fun s₃ => R (.ok .next) s₃) _ hst' fun h' tk' hk' => ?_) (fun r s₁ hr => ?_) fun _ _ e => e
    · have up : ∀ b o, b ≠ cenv.locals → b ∉ wr → b ≠ D → h.get? b = some o → h'.get? b = some o := fun b o b1 b2 b3 e => hk' b o b2 e
      refine hR h' tk' m₂ ys (hn'.at' fun o e => hk' _ o hCw e) ?_ (hPr.mono fun a b q => hF a b _ _ q up) fun b o b1 b2 b3 e => hk' b o b2 (hk b o b1 b2 b3 e)
      obtain ⟨o, nn, ho, hr'⟩ := hP
      exact ⟨o, nn, hk' _ o hDw ho, hr'⟩
    · cases r with
      | none => exact hr
      | some v => exact hr.elim
end
end Mine
end

section
open PySem PySem.W PyProof.Rows PySem.Calls
namespace Mine

section
variable {w : World} {A : Around} {E : Value → Shared → Prop} {R : Result → Shared → Prop} {s : Shared}

theorem comp_block {elt target iter : Expr} {ifs : List Expr} {scope : Scope} {cl : List (Str × Addr)} {pos : Pos} {env : Env} {s₂ : Shared} {I : Addr} {fp wr : List Addr} {n : Nat} {Bd : Nat → (Str → Option Value) → Prop}
    {St : Nat → Heap → Prop} {RR : Value → Addr → Result → Shared → Prop} (Fd : Feeds w A target I fp wr n Bd St (compEnvC scope cl (s₂.heap.objs.size + 1) env)) (p : Nat → Bool) (F : Nat → Value → Heap → Prop)
    (hcell : ∀ y ∈ scope.names, y.2 ≠ .cell) (hkind : scope.kind = .function) (hst : St 0 s₂.heap) (hfp : ∀ b ∈ fp, b < s₂.heap.objs.size)
    (hF : ∀ i v h h', F i v h → (∀ b o, b ≠ s₂.heap.objs.size → b ≠ s₂.heap.objs.size + 1 → b ∉ wr → h.get? b = some o → h'.get? b = some o) → F i v h')
    (tests : ∀ i h tk m₂ E', i < n → Bd i m₂ → h.Ns (s₂.heap.objs.size + 1) m₂ → (∀ b o, b ∉ wr → s₂.heap.get? b = some o → h.get? b = some o) →
      wpAny (model pr w) A (forIn ifs true fun c r => if r = true then do let ok ← isTrue c (compEnvC scope cl (s₂.heap.objs.size + 1) env) (eval c (compEnvC scope cl (s₂.heap.objs.size + 1) env)); pure (ForInStep.yield ok) else pure (ForInStep.yield r))
        (fun ok s₃ => ok = p i ∧ Keeps { s₂ with heap := h, toks := tk } s₃) E' { s₂ with heap := h, toks := tk })
    (helt : ∀ i h tk m₂ E', i < n → p i = true → Bd i m₂ → h.Ns (s₂.heap.objs.size + 1) m₂ → (∀ b o, b ∉ wr → s₂.heap.get? b = some o → h.get? b = some o) →
      wpAny (model pr w) A (eval elt (compEnvC scope cl (s₂.heap.objs.size + 1) env)) (fun y s₃ => F i y s₃.heap ∧ Keeps { s₂ with heap := h, toks := tk } s₃) E' { s₂ with heap := h, toks := tk })
    (hsz : n ≤ 1000)
    (hRR : ∀ h' tk m' (ys : List Value), h'.Ns (s₂.heap.objs.size + 1) m' → PlainL h' s₂.heap.objs.size ys.toArray → Paired (fun i y => F i y h') ((List.range n).filter p) ys →
      (∀ b o, b ∉ wr → s₂.heap.get? b = some o → h'.get? b = some o) → RR (.ref s₂.heap.objs.size) (s₂.heap.objs.size + 1) (.ok .next) { s₂ with heap := h', toks := tk }) :
    wpAny (model pr w) A (newList []) (fun acc s₃ => wpAny (model pr w) A (newFunctionEnv scope env.globals cl [] env.qual none .none (some env)) (fun cenv s₄ =>
      codeAny (model pr w) A (.compStart (.ListComp elt [⟨target, iter, ifs, 0⟩] scope pos) 0 (.ref I) acc { cenv with scope := relabel scope env }) (RR acc cenv.locals) s₄) E s₃) E s₂ := by
  refine wpAny_newObj_type (wpAny_newFunctionEnv hcell (by intro y hy; simp at hy) (fun h₁ hns₁ hsb₁ => ?_) hkind)
  dsimp only at hns₁ hsb₁ ⊢
  generalize hH2 : s₂.heap.push { cls := .type "list", dict := none, data := .seq ([] : List Value).toArray } = H2 at hns₁ hsb₁ ⊢
  have hC : H2.objs.size = s₂.heap.objs.size + 1 := by rw [← hH2, Heap.size_push]
  rw [hC] at hns₁ hsb₁ ⊢
  have hDC : s₂.heap.objs.size ≠ s₂.heap.objs.size + 1 := Nat.ne_of_lt (Nat.lt_succ_self _)
  have below : ∀ b, b < s₂.heap.objs.size → b ≠ s₂.heap.objs.size + 1 ∧ b ≠ s₂.heap.objs.size := fun b hb => ⟨Nat.ne_of_lt (Nat.lt_succ_of_lt hb), Nat.ne_of_lt hb⟩
  have hDf : s₂.heap.objs.size ∉ fp := fun hm => Nat.lt_irrefl _ (hfp _ hm)
  have hCf : s₂.heap.objs.size + 1 ∉ fp := fun hm => Nat.lt_irrefl _ (Nat.lt_of_succ_lt (hfp _ hm))
  have old : ∀ b o, s₂.heap.get? b = some o → h₁.get? b = some o := fun b o e => hsb₁.extBut b o (below b (Heap.lt_size e)).1 (Heap.get?_push_of_some _ (hH2 ▸ Heap.get?_push_of_some _ e))
  have hacc : PlainL h₁ s₂.heap.objs.size #[] := ⟨_, _, hsb₁.extBut _ _ hDC (Heap.get?_push_of_some _ (hH2 ▸ Heap.get?_push_size _ rfl)), rfl, rfl, rfl⟩
  have hst₁ : St 0 h₁ := Fd.frame _ _ _ hst fun b _ o e => old b o e
  have loop : ∀ s₃ : Shared, s₃ = { s₂ with heap := h₁, toks := s₂.toks + ([] : List (Str × Value)).length } →
      codeAny (model pr w) A (.compLoop (.ListComp elt [⟨target, iter, ifs, 0⟩] scope pos) 0 (.ref I) (.ref s₂.heap.objs.size) (compEnvC scope cl (s₂.heap.objs.size + 1) env))
        (RR (.ref s₂.heap.objs.size) (s₂.heap.objs.size + 1)) s₃ := by
    rintro s₃ rfl
    refine comp_loop (cenv := compEnvC scope cl (s₂.heap.objs.size + 1) env) Fd p F (fun i v h h' q k => hF i v h h' q fun b o b1 b2 b3 e => k b o b2 b3 b1 e) hDC hDf hCf hst₁ hacc hns₁ ?_ ?_ ?_ hsz
    · intro i h tk m₂ E' hi hb hn hk
      exact tests i h tk m₂ E' hi hb hn fun b o b2 e => hk b o (below b (Heap.lt_size e)).1 b2 (below b (Heap.lt_size e)).2 (old b o e)
    · intro i h tk m₂ E' hi hp hb hn hk
      exact helt i h tk m₂ E' hi hp hb hn fun b o b2 e => hk b o (below b (Heap.lt_size e)).1 b2 (below b (Heap.lt_size e)).2 (old b o e)
    · intro h' tk m' ys hn hP hPr hk
      exact hRR h' tk m' ys hn hP hPr fun b o b2 e => hk b o (below b (Heap.lt_size e)).1 b2 (below b (Heap.lt_size e)).2 (old b o e)
  exact codeAny_compStart_list (loop _ rfl) (Fd.self 0 _ _ _ hst₁ (loop _ rfl))

/-- the value of a comprehension -/
theorem comp_eval {elt target iter : Expr} {ifs : List Expr} {scope : Scope} {cl : List (Str × Addr)} {pos : Pos} {env : Env} {Q : Value → Shared → Prop} (hclos : closureFor scope env = pure cl) (hkind : scope.kind = .function)
    (hnames : ∀ y ∈ scope.names, y.2 = .local → scope.names.lookup y.1 = some .local)
    (h : wpAny (model pr w) A (eval iter env) (fun xv s₁ => wpAny (model pr w) A (pyIter xv) (fun it s₂ => wpAny (model pr w) A (newList []) (fun acc s₃ => wpAny (model pr w) A (newFunctionEnv scope env.globals cl [] env.qual none .none (some env)) (fun cenv s₄ =>
      codeAny (model pr w) A (.compStart (.ListComp elt [⟨target, iter, ifs, 0⟩] scope pos) 0 it acc { cenv with scope := relabel scope env }) (compPost (model pr w) A E none Q acc cenv.locals) s₄) E s₃) E s₂) E s₁) E s)
    (hs : ∀ x, foldedSetIterable iter env x = pure x := by intro _; rfl) :
    wpAny (model pr w) A (eval (.ListComp elt [⟨target, iter, ifs, 0⟩] scope pos) env) Q E s := by
  rw [eval_ListComp]
  exact wpAny_comprehension_free (use := none) rfl hs hclos hkind hnames h

theorem comp_assign {elt target iter : Expr} {ifs : List Expr} {scope : Scope} {cl : List (Str × Addr)} {y : Str} {py pos spos : Pos} {env : Env} {Q : Flow → Shared → Prop}
    (hsw : swapsWith (.ListComp elt [⟨target, iter, ifs, 0⟩] scope pos) (some (.Name y py)) spos.line env = pure true)
    (hclos : closureFor scope env = pure cl) (hkind : scope.kind = .function) (hnames : ∀ y ∈ scope.names, y.2 = .local → scope.names.lookup y.1 = some .local)
    (h : wpAny (model pr w) A (eval iter env) (fun xv s₁ => wpAny (model pr w) A (pyIter xv) (fun it s₂ => wpAny (model pr w) A (newList []) (fun acc s₃ => wpAny (model pr w) A (newFunctionEnv scope env.globals cl [] env.qual none .none (some env)) (fun cenv s₄ =>
      codeAny (model pr w) A (.compStart (.ListComp elt [⟨target, iter, ifs, 0⟩] scope pos) 0 it acc { cenv with scope := relabel scope env }) (compPost (model pr w) A E (some (assign (.Name y py) env)) (fun _ s' => Q .next s') acc cenv.locals) s₄) E s₃) E s₂) E s₁) E s)
    (hs : ∀ x, foldedSetIterable iter env x = pure x := by intro _; rfl) :
    wpAny (model pr w) A (exec (.Assign [.Name y py] (.ListComp elt [⟨target, iter, ifs, 0⟩] scope pos) spos) env) Q E s := by
  rw [exec_Assign_Name_used _ _ _ _ hsw]
  refine wpAny_bind (wpAny_standAt (wpAny_bind ?_))
  show wpAny _ A (do let _ ← comprehension (.ListComp elt [⟨target, iter, ifs, 0⟩] scope pos) scope env _ (newList []) false (eval iter env) (some (assign (.Name y py) env))) _ _ s
  exact wpAny_bind (wpAny_mono (wpAny_comprehension_free (use := some (assign (.Name y py) env)) (Q := fun _ s' => Q .next s') rfl hs hclos hkind hnames h) (fun _ s' hq => wpAny_pure (wpAny_pure hq)) fun _ _ e => e)

/-- the end, where the value is handed on -/
theorem post_eval {Q : Value → Shared → Prop} {s₂ : Shared} {h' : Heap} {tk : Nat} {m' : Str → Option Value} {D C : Addr} (hn : h'.Ns C m') (hQ : ∀ h'', Heap.SameBut C h' h'' → Q (.ref D) { s₂ with heap := h'', toks := tk }) :
    compPost (model pr w) A E none Q (.ref D) C (.ok .next) { s₂ with heap := h', toks := tk } := ⟨m', hn, hQ⟩

/-- the end, where the value is stored into a local -/
theorem post_assign {Q : Flow → Shared → Prop} {s₂ : Shared} {h' : Heap} {tk : Nat} {m m' : Str → Option Value} {D C : Addr} {y : Str} {py : Pos} {env : Env} (hn : h'.Ns C m') (hL : h'.Ns env.locals m) (hLC : env.locals ≠ C)
    (hy : env.kindOf y = some .local) (hp : (env.scope.kind == .class || (env.scope.kind == .module && env.locals != env.globals)) = false)
    (hQ : ∀ h'' tk', h''.Ns env.locals (fun z => if z = y then some (.ref D) else m z) → (∀ b o, b ≠ env.locals → b ≠ C → h'.get? b = some o → h''.get? b = some o) → Q .next { s₂ with heap := h'', toks := tk' }) :
    compPost (model pr w) A E (some (assign (.Name y py) env)) (fun _ s' => Q .next s') (.ref D) C (.ok .next) { s₂ with heap := h', toks := tk } := by
  show wpAny _ A (assign (.Name y py) env (.ref D)) _ _ _
  refine wpAny_assign_Name (wpAny_storeName_local hy hL (fun h₂ hn₂ hs₂ => ?_) hp)
  refine ⟨m', hn.sameBut hs₂ (Ne.symm hLC), fun h₃ hs₃ => ?_⟩
  exact hQ h₃ _ (hn₂.sameBut hs₃ hLC) fun b o b1 b2 e => hs₃.extBut b o b2 (hs₂.extBut b o b1 e)

/-- one name, from a walk over values -/
theorem feeds_name {x : Str} {px : Pos} {I : Addr} {fp wr : List Addr} {n : Nat} {P : Nat → Value → Prop} {St : Nat → Heap → Prop} {cenv : Env} (W : Walks pr w A I fp wr n P St) (hx : cenv.kindOf x = some .local)
    (hp : (cenv.scope.kind == .class || (cenv.scope.kind == .module && cenv.locals != cenv.globals)) = false) : Feeds w A (.Name x px) I fp wr n (fun i m => ∃ v, P i v ∧ m x = some v) St cenv where
  sub := W.sub
  frame := W.frame
  item := fun i s m Q E hi hst hn hC hQ => by
    refine W.item i s _ _ hi hst fun v h' tk hP hst' hk => ?_
    refine wpAny_of_eq (rfl : letOwnedTupleGo (.Name x px) (.ref I) v = pure ()) ?_
    refine wpAny_assign_Name (wpAny_storeName_local hx (hn.at' fun o e => hk _ o (fun q => hC (W.sub _ q)) e) (fun h₂ hn₂ hs₂ => ?_) hp)
    exact hQ h₂ _ _ ⟨v, hP, by simp⟩ hn₂ (W.frame _ _ _ hst' fun b hb o e => hs₂.extBut b o (fun q => hC (q ▸ hb)) e) fun b o b1 b2 e => hs₂.extBut b o b2 (hk b o b1 e)
  done := fun s Q E hst hQ => W.done s _ _ hst fun h' tk hk => hQ h' tk hk
  self := W.self

/-- two names, from a walk over pairs -/
theorem feeds_two {x y : Str} {px py pt : Pos} {k : Nat} {I : Addr} {fp wr : List Addr} {n : Nat} {Pt : Nat → Array Value → Prop} {St : Nat → Heap → Prop} {Mid : Nat → Addr → Heap → Prop} {cenv : Env} (hh : A.handled = none)
    (W : WalksT pr w A I fp wr n Pt St Mid) (h2 : ∀ i vals, Pt i vals → ∃ u v, vals = #[u, v]) (hx : cenv.kindOf x = some .local) (hy : cenv.kindOf y = some .local) (hxy : x ≠ y)
    (hp : (cenv.scope.kind == .class || (cenv.scope.kind == .module && cenv.locals != cenv.globals)) = false) :
    Feeds w A (.Tuple [.Name x px, .Name y py] k pt) I fp wr n (fun i m => ∃ u v, Pt i #[u, v] ∧ m x = some u ∧ m y = some v) St cenv where
  sub := W.sub
  frame := W.frame
  item := fun i s m Q E hi hst hn hC hQ => by
    have hCw : cenv.locals ∉ wr := fun q => hC (W.sub _ q)
    refine W.item i s _ _ hi hst fun T vals h₁ tk₁ hP hT hTup hMid hk₁ => ?_
    obtain ⟨u, v, rfl⟩ := h2 i vals hP
    refine W.go _ k pt i T _ _ _ hMid fun h₂ hst₂ hk₂ => ?_
    refine wpAny_assign_Tuple hh (hTup.at fun o e => hk₂ T o (W.apart i T h₁ hMid) e) rfl rfl fun h₃ hx₃ => ?_
    dsimp only at hx₃ hk₂ hk₁
    have up : ∀ b o, b ∉ wr → s.heap.get? b = some o → h₃.get? b = some o := fun b o b1 e => by
      have := hk₂ b o b1 (hk₁ b o b1 e)
      exact hx₃ b o (Nat.ne_of_lt (Heap.lt_size this)) this
    show wpAny _ _ (do holding [_] (assign (.Name _ _) _ _); do holding [] (assign (.Name _ _) _ _); pure ()) _ _ _
    refine wpAny_bind (wpAny_holding (wpAny_assign_Name (wpAny_storeName_local hx (hn.at' fun o e => up _ o hCw e) (fun h₄ hn₄ hs₄ => ?_) hp)))
    refine wpAny_bind (wpAny_holding (wpAny_assign_Name (wpAny_storeName_local hy hn₄ (fun h₅ hn₅ hs₅ => wpAny_pure ?_) hp)))
    dsimp only at hs₄ hs₅ hn₅ ⊢
    refine hQ h₅ _ _ ⟨u, v, hP, by simp [hxy], by simp⟩ hn₅ ?_ fun b o b1 b2 e => hs₅.extBut b o b2 (hs₄.extBut b o b2 (up b o b1 e))
    refine W.frame _ _ _ hst₂ fun b hb o e => ?_
    have hbC : b ≠ cenv.locals := fun q => hC (q ▸ hb)
    exact hs₅.extBut b o hbC (hs₄.extBut b o hbC (hx₃ b o (Nat.ne_of_lt (Heap.lt_size e)) e))
  done := fun s Q E hst hQ => W.done s _ _ hst fun h' tk hk => hQ h' tk hk
  self := W.self

/-- three names, from a walk over triples -/
theorem feeds_three {x y z : Str} {px py pz pt : Pos} {k : Nat} {I : Addr} {fp wr : List Addr} {n : Nat} {Pt : Nat → Array Value → Prop} {St : Nat → Heap → Prop} {Mid : Nat → Addr → Heap → Prop} {cenv : Env} (hh : A.handled = none)
    (W : WalksT pr w A I fp wr n Pt St Mid) (h2 : ∀ i vals, Pt i vals → ∃ u v t, vals = #[u, v, t]) (hx : cenv.kindOf x = some .local) (hy : cenv.kindOf y = some .local) (hz : cenv.kindOf z = some .local) (hxy : x ≠ y) (hxz : x ≠ z) (hyz : y ≠ z)
    (hp : (cenv.scope.kind == .class || (cenv.scope.kind == .module && cenv.locals != cenv.globals)) = false) :
    Feeds w A (.Tuple [.Name x px, .Name y py, .Name z pz] k pt) I fp wr n (fun i m => ∃ u v t, Pt i #[u, v, t] ∧ m x = some u ∧ m y = some v ∧ m z = some t) St cenv where
  sub := W.sub
  frame := W.frame
  item := fun i s m Q E hi hst hn hC hQ => by
    have hCw : cenv.locals ∉ wr := fun q => hC (W.sub _ q)
    refine W.item i s _ _ hi hst fun T vals h₁ tk₁ hP hT hTup hMid hk₁ => ?_
    obtain ⟨u, v, t, rfl⟩ := h2 i vals hP
    refine W.go _ k pt i T _ _ _ hMid fun h₂ hst₂ hk₂ => ?_
    refine wpAny_assign_Tuple hh (hTup.at fun o e => hk₂ T o (W.apart i T h₁ hMid) e) rfl rfl fun h₃ hx₃ => ?_
    dsimp only at hx₃ hk₂ hk₁
    have up : ∀ b o, b ∉ wr → s.heap.get? b = some o → h₃.get? b = some o := fun b o b1 e => by
      have := hk₂ b o b1 (hk₁ b o b1 e)
      exact hx₃ b o (Nat.ne_of_lt (Heap.lt_size this)) this
    show wpAny _ _ (do holding [_, _] (assign (.Name _ _) _ _); do holding [_] (assign (.Name _ _) _ _); do holding [] (assign (.Name _ _) _ _); pure ()) _ _ _
    refine wpAny_bind (wpAny_holding (wpAny_assign_Name (wpAny_storeName_local hx (hn.at' fun o e => up _ o hCw e) (fun h₄ hn₄ hs₄ => ?_) hp)))
    refine wpAny_bind (wpAny_holding (wpAny_assign_Name (wpAny_storeName_local hy hn₄ (fun h₅ hn₅ hs₅ => ?_) hp)))
    refine wpAny_bind (wpAny_holding (wpAny_assign_Name (wpAny_storeName_local hz hn₅ (fun h₆ hn₆ hs₆ => wpAny_pure ?_) hp)))
    dsimp only at hs₄ hs₅ hs₆ hn₆ ⊢
    refine hQ h₆ _ _ ⟨u, v, t, hP, by simp [hxy, hxz], by simp [hyz], by simp⟩ hn₆ ?_ fun b o b1 b2 e => hs₆.extBut b o b2 (hs₅.extBut b o b2 (hs₄.extBut b o b2 (up b o b1 e)))
    refine W.frame _ _ _ hst₂ fun b hb o e => ?_
    have hbC : b ≠ cenv.locals := fun q => hC (q ▸ hb)
    exact hs₆.extBut b o hbC (hs₅.extBut b o hbC (hs₄.extBut b o hbC (hx₃ b o (Nat.ne_of_lt (Heap.lt_size e)) e)))
  done := fun s Q E hst hQ => W.done s _ _ hst fun h' tk hk => hQ h' tk hk
  self := W.self
end
end Mine
end

section
open PySem PySem.W PyProof.Rows PySem.Calls
namespace Mine

def rowOf (way n : Nat) : List Int := (List.range n).map fun p => ((way / 2 ^ (n - 1 - p) % 2 : Nat) : Int)

theorem ints_of_paired {f : Nat → Int} : ∀ {is : List Nat} {ys : List Value}, Paired (fun i y => ∃ t, y = .int (f i) t) is ys → IntsAre ys (is.map f)
  | _, _, .nil => .nil
  | _, _, .cons ⟨t, e⟩ r => by subst e; exact .cons _ t (ints_of_paired r)

theorem deep {A : Around} {env : Env} (h : A.handled = none) : (A.deeper env).handled = none := h
theorem pow_small {k : Nat} (h : k ≤ 10) : ((2 : Int) ^ k).natAbs < 1073741824 := by
  rw [Int.natAbs_pow]
  exact Nat.lt_of_le_of_lt (Nat.pow_le_pow_right (by decide) h) (by decide)
theorem row_val {way k : Nat} : (((way : Nat) : Int).fdiv ((2 : Int) ^ k)).fmod 2 = ((way / 2 ^ k % 2 : Nat) : Int) := by
  rw [Int.fdiv_eq_ediv_of_nonneg _ (Int.le_of_lt (Int.pow_pos (by decide))), Int.fmod_eq_emod_of_nonneg _ (by decide)]
  simp

section
variable {w : World} {mg mb : Str → Option Value} {A : Around} {s : Shared} {E : Value → Shared → Prop}

theorem range_it {n : Nat} {t : Tok} {Q : Value → Shared → Prop} (hn : n ≤ 1000)
    (hQ : ∀ h' tk I, Kp s.heap h' → s.heap.objs.size ≤ I → I < h'.objs.size → IsRangeIter h' I 0 n 1 → Q (.ref I) { s with heap := h', toks := tk }) :
    wpAny (model pr w) A (call (.type "range") [.int (n : Nat) t]) (fun x s₁ => wpAny (model pr w) A (pyIter x) Q E s₁) E s := by
  refine call_range_1 (wpAny_pyIter_range (IsRange.new _ _ _ _ _ _ _) (small_one (by decide) (by decide) (by omega) (by omega)) ?_)
  refine hQ _ _ _ (fun b o e => Heap.get?_push_of_some _ (Heap.get?_push_of_some _ e)) ?_ ?_ ?_
  · dsimp only; rw [Heap.size_push]; exact Nat.le_succ _
  · dsimp only; rw [Heap.size_push, Heap.size_push, Heap.size_push]; exact Nat.lt_succ_self _
  · have : Builtin.Range.rangeSize 0 (n : Nat) 1 = (n : Int) := by
      rw [rangeSize_one]; split <;> omega
    rw [this]
    exact Heap.get?_push_size _ rfl

set_option maxRecDepth 20000 in
set_option maxHeartbeats 2000000 in
theorem row_ok {way n : Nat} {t u : Tok} {Q : Value → Shared → Prop} (W : Wd w mg mb s.heap) (hh : A.handled = none) (hroom : A.depth < recursionLimit) (hn : n ≤ 10)
    (hQ : ∀ h' tk a vs, Kp s.heap h' → s.heap.objs.size ≤ a → PlainL h' a (List.toArray vs) → IntsAre vs (rowOf way n) → Q (.ref a) { s with heap := h', toks := tk }) :
    wpAny (model pr w) A (call (.ref 65) [.int (way : Nat) t, .int (n : Nat) u]) Q E s := by
  have hcd : s.heap.CodeRec (.ref 64) (Str.ofString "_law_row") := ⟨64, _, _, _, rfl, W.K 64 _ rfl, rfl, rfl⟩
  refine wpAny_call (call_cells_ret (binds := [(Str.ofString "way", .int (way : Nat) t), (Str.ofString "count", .int (n : Nat) u)]) hroom (W.K 65 _ rfl) rfl W.lim hcd rfl
    (kinds_of ⟨.inr ⟨rfl, rfl⟩, .inr ⟨rfl, rfl⟩, trivial⟩) fun h₁ tk₁ F X => ?_)
  have hcw : h₁.IsCell (s.heap.objs.size + 1) (some (.int (way : Nat) t)) := X.cell (Str.ofString "way") _ rfl
  have hcc : h₁.IsCell (s.heap.objs.size + 1 + 1) (some (.int (n : Nat) u)) := X.cell (Str.ofString "count") _ rfl
  have hml : mg (Str.ofString "range") = none := mg_none_of W.K W.g (by with_unfolding_all rfl)
  refine wpAny_execs_cons (wpAny_Return_some (comp_eval rfl rfl (by decide) (Call_ (Name_function_global rfl rfl (loadGlobal_builtin (W.g.keeps F.keep) hml (W.b.keeps F.keep) ((W.bb _ (by decide)).trans boot_range)
    (PyProof.Rows.callWith_type1 (args_cons (wpAny_Name (wpAny_loadName_cell rfl rfl rfl hcc (args_nil (range_it (by omega) fun h₂ tk₂ I hk₂ hI1 hI2 hit => ?_)))))))))))
  dsimp only at hk₂ hI1 hI2
  refine comp_block (n := n) (feeds_name (Walks.range (deep hh) I 0 1 n) rfl rfl) (fun _ => true) (fun i y _ => ∃ t, y = .int ((way / 2 ^ (n - 1 - i) % 2 : Nat) : Int) t) (by decide) rfl ?_ ?_ (fun _ _ _ _ q _ => q) ?_ ?_ (Nat.le_trans hn (by decide)) ?_
  · simpa using hit
  · intro b hb; rw [List.mem_singleton.mp hb]; exact hI2
  · intro i h tk m₂ E' hi hb hn' hk
    exact wpAny_tests_nil ⟨rfl, h, tk, rfl, fun _ _ e => e⟩
  · rintro i h tk m₂ E' hi - ⟨v, ⟨tp, rfl⟩, hm⟩ hn' hk
    have off : ∀ b o, h₁.get? b = some o → h.get? b = some o := fun b o e => hk b o (fun q => by rw [List.mem_singleton.mp q] at e; exact absurd (Heap.lt_size e) (Nat.not_lt.mpr hI1)) (hk₂ b o e)
    have hexp : (((n : Nat) : Int) - 1 - (0 + ((i : Nat) : Int) * 1)).toNat = n - 1 - i := by omega
    refine wpAny_BinOp (wpAny_BinOp (wpAny_Name (wpAny_loadName_cell rfl rfl rfl (hcw.keeps off) ?_)))
    refine wpAny_BinOp (wpAny_Constant_int (wpAny_BinOp (wpAny_BinOp (wpAny_Name (wpAny_loadName_cell rfl rfl rfl (hcc.keeps off) ?_)))))
    refine wpAny_Constant_int (PyProof.Rows.sub_int (wpAny_Name (wpAny_loadName_local rfl rfl hn' hm (PyProof.Rows.sub_int ?_))))
    refine pow_int (by omega) ?_ (floordiv_int ?_ (wpAny_Constant_int (mod_int' (by decide) ⟨?_, ?_⟩)) (Or.inl (PyProof.noPylong_small ?_)))
    · rw [show (Builtin.Int.intBits 2 : Nat) = 2 from by decide +kernel]; omega
    · rw [hexp]; exact Int.ne_of_gt (Int.pow_pos (by decide))
    · exact ⟨_, congrArg (fun z => Value.int z _) (by rw [hexp]; exact row_val)⟩
    · exact ⟨h, _, rfl, fun _ _ e => e⟩
    · rw [hexp]; exact pow_small (by omega)
  · intro h' tk m' ys hn' hP hPr hk
    refine post_eval hn' fun h'' hs'' => hQ h'' tk _ ys (fun b o e => ?_) (Nat.le_trans ?_ (Nat.le_of_lt (Nat.lt_of_le_of_lt hI1 hI2))) (hP.extBut hs''.extBut (Nat.ne_of_lt (Nat.lt_succ_self _))) ?_
    · have e2 := hk₂ b o (F.keep b o e)
      exact hs''.extBut b o (Nat.ne_of_lt (Nat.lt_succ_of_lt (Heap.lt_size e2))) (hk b o (fun q => by rw [List.mem_singleton.mp q] at e; exact absurd (Heap.lt_size (F.keep I o e)) (Nat.not_lt.mpr hI1)) e2)
    · exact Nat.le_trans F.above (Nat.le_of_lt F.ns.lt)
    · have := ints_of_paired hPr
      rw [List.filter_eq_self.mpr (fun _ _ => rfl)] at this
      exact this
end
end Mine
end

section
open PySem PySem.W PyProof.Rows PySem.Calls
namespace Mine

/-- a text of the law's: the brackets of a row, each with its piece -/
def textOf (bs : List Int) (ps : List Str) : Str := Txt.join (Str.ofString "") (List.zipWith (fun b p => (if b == 0 then Str.ofString "(" else Str.ofString ")") ++ p) bs ps)

theorem strs_of_paired {f : Nat → Str} : ∀ {is : List Nat} {ys : List Value}, Paired (fun i y => ∃ t, y = .str (f i) t) is ys → ∃ l : List (Str × Tok), ys = strValues l ∧ l.map (·.1) = is.map f
  | _, _, .nil => ⟨[], rfl, rfl⟩
  | _, _, .cons ⟨t, e⟩ r => by
    obtain ⟨l, h1, h2⟩ := strs_of_paired r
    subst e; subst h1
    exact ⟨(_, t) :: l, rfl, by simp [h2]⟩

theorem range_zipWith {α β γ : Type} (f : α → β → γ) (g : Nat → γ) : ∀ (xs : List α) (ys : List β), (∀ i x y, xs[i]? = some x → ys[i]? = some y → g i = f x y) →
    (List.range (min xs.length ys.length)).map g = List.zipWith f xs ys := by
  intro xs ys h
  apply List.ext_getElem?
  intro i
  rw [List.getElem?_map, List.getElem?_zipWith]
  by_cases hi : i < min xs.length ys.length
  · have hx : i < xs.length := by omega
    have hy : i < ys.length := by omega
    rw [List.getElem?_range hi, List.getElem?_eq_getElem hx, List.getElem?_eq_getElem hy]
    simp [h i _ _ (List.getElem?_eq_getElem hx) (List.getElem?_eq_getElem hy)]
  · have : (List.range (min xs.length ys.length))[i]? = none := List.getElem?_eq_none (by simp; omega)
    rw [this]
    by_cases hx : i < xs.length
    · have hy : ys[i]? = none := List.getElem?_eq_none (by omega)
      rw [hy]; simp
    · rw [List.getElem?_eq_none (by omega : xs.length ≤ i)]; simp

section
variable {w : World} {mg mb : Str → Option Value} {A : Around} {s : Shared} {E : Value → Shared → Prop}

theorem zip_it {l1 l2 : Addr} {xs ys : Array Value} {Q : Value → Shared → Prop} (hh : A.handled = none) (hl1 : s.heap.IsList l1 xs) (hl2 : s.heap.IsList l2 ys)
    (hQ : ∀ h' z fp wr St Mid, Kp s.heap h' → s.heap.objs.size ≤ z → WalksT pr w A z fp wr (min xs.size ys.size) (fun i vals => ∃ x y, xs[i]? = some x ∧ ys[i]? = some y ∧ vals = #[x, y]) St Mid → St 0 h' →
      (∀ b ∈ fp, b < h'.objs.size) → (∀ b ∈ wr, s.heap.objs.size ≤ b) → Q (.ref z) { s with heap := h' }) :
    wpAny (model pr w) A (call (.type "zip") [.ref l1, .ref l2]) (fun x s₁ => wpAny (model pr w) A (pyIter x) Q E s₁) E s := by
  refine call_zip_2 hl1 hl2 fun h' hz hTI hTO h1 h2 hsz hk => wpAny_pyIter_zip hz ?_
  have lt1 : l1 < s.heap.objs.size := by obtain ⟨o, e, _⟩ := hl1; exact Heap.lt_size e
  have lt2 : l2 < s.heap.objs.size := by obtain ⟨o, e, _⟩ := hl2; exact Heap.lt_size e
  refine hQ h' _ _ _ _ _ hk (Nat.le_add_right _ _) (WalksT.zip2 hh _ _ _ _ _ _ _ (zipApart_new lt1 lt2) xs ys) ⟨hz, hTI, ⟨_, _, hTO⟩, h1, h2, hl1.at fun o e => hk _ o e, hl2.at fun o e => hk _ o e⟩ ?_ ?_
  · intro b hb
    rw [hsz]
    simp only [List.mem_cons, List.not_mem_nil, or_false] at hb
    rcases hb with rfl | rfl | rfl | rfl | rfl | rfl | rfl
    · exact Nat.add_lt_add_left (by decide) _
    · exact Nat.add_lt_add_left (by decide) _
    · exact Nat.add_lt_add_left (by decide) _
    · exact Nat.lt_add_of_pos_right (by decide)
    · exact Nat.add_lt_add_left (by decide) _
    · exact Nat.lt_of_lt_of_le lt1 (Nat.le_add_right _ _)
    · exact Nat.lt_of_lt_of_le lt2 (Nat.le_add_right _ _)
  · intro b hb
    simp only [List.mem_cons, List.not_mem_nil, or_false] at hb
    rcases hb with rfl | rfl | rfl | rfl
    · exact Nat.le_add_right _ _
    · exact Nat.le_add_right _ _
    · exact Nat.le_refl _
    · exact Nat.le_add_right _ _

set_option maxRecDepth 20000 in
set_option maxHeartbeats 2000000 in
theorem text_ok {l1 l2 : Addr} {vs : List Value} {bs : List Int} {ls : List (Str × Tok)} {Q : Value → Shared → Prop} (W : Wd w mg mb s.heap) (hh : A.handled = none) (hroom : A.depth < recursionLimit)
    (hl1 : s.heap.IsList l1 vs.toArray) (hI : IntsAre vs bs) (hl2 : s.heap.IsList l2 (strValues ls).toArray) (hn : bs.length ≤ 10) (hlen : ∀ p ∈ ls, p.1.length ≤ 10)
    (hQ : ∀ h' tk t, Kp s.heap h' → Q (.str (textOf bs (ls.map (·.1))) t) { s with heap := h', toks := tk }) :
    wpAny (model pr w) A (call (.ref 70) [.ref l1, .ref l2]) Q E s := by
  have hcd : s.heap.CodeRec (.ref 69) (Str.ofString "_law_text") := ⟨69, _, _, _, rfl, W.K 69 _ rfl, rfl, rfl⟩
  refine wpAny_call (call_pos_ret hroom (W.K 70 _ rfl) rfl W.lim hcd rfl (locs rfl) fun h₁ F => ?_)
  have hml : mg (Str.ofString "zip") = none := mg_none_of W.K W.g (by with_unfolding_all rfl)
  have hvl : vs.length = bs.length := by have := IntsAre.length hI; omega
  have e1 : h₁.IsList l1 vs.toArray := hl1.at fun o e => F.keep _ o e
  have e2 : h₁.IsList l2 (strValues ls).toArray := hl2.at fun o e => F.keep _ o e
  refine wpAny_execs_cons (wpAny_Return_some (Call_joinL rfl (comp_eval rfl rfl (by decide) (Call_ (Name_function_global rfl rfl (loadGlobal_builtin (W.g.keeps F.keep) hml (W.b.keeps F.keep) ((W.bb _ (by decide)).trans boot_zip)
    (PyProof.Rows.callWith_type1 (args_cons (wpAny_Name (wpAny_loadName_local rfl rfl F.ns rfl (args_cons (wpAny_Name (wpAny_loadName_local rfl rfl F.ns rfl (args_nil ?_))))))))))))))
  refine zip_it (deep hh) e1 e2 fun h₂ z fp wr St Mid hk₂ hz WT hst hfp hwr => ?_
  dsimp only at hk₂ hz hwr
  have hN : min vs.toArray.size (strValues ls).toArray.size ≤ 10 := by simp; omega
  refine comp_block (n := min vs.toArray.size (strValues ls).toArray.size) (feeds_two (deep hh) WT (fun i vals ⟨x, y, _, _, e⟩ => ⟨x, y, e⟩) rfl rfl (by decide) rfl) (fun _ => true)
    (fun i y _ => ∃ t, y = .str ((if bs.getD i 0 == 0 then Str.ofString "(" else Str.ofString ")") ++ (ls.map (·.1)).getD i ⟨#[]⟩) t) (by decide) rfl hst hfp (fun _ _ _ _ q _ => q) ?_ ?_ (Nat.le_trans hN (by decide)) ?_
  · intro i h tk m₂ E' hi hb hn' hk
    exact wpAny_tests_nil ⟨rfl, h, tk, rfl, fun _ _ e => e⟩
  · rintro i h tk m₂ E' hi - ⟨u, v, ⟨x, y, hx, hy, e⟩, hm1, hm2⟩ hn' hk
    simp only [Array.mk.injEq, List.cons.injEq, and_true] at e
    obtain ⟨rfl, rfl⟩ := e
    obtain ⟨b, tb, rfl, hb⟩ := IntsAre.at hI i u (by simpa using hx)
    obtain ⟨pp, hpp, rfl⟩ : ∃ pp, ls[i]? = some pp ∧ v = .str pp.1 pp.2 := by
      have hy' : (strValues ls)[i]? = some v := by simpa using hy
      rw [strValues, List.getElem?_map] at hy'
      cases hq : ls[i]? with
      | none => rw [hq] at hy'; cases hy'
      | some pp => rw [hq] at hy'; exact ⟨pp, rfl, (Option.some.inj hy').symm⟩
    have hl10 := hlen pp (List.mem_of_getElem? hpp)
    have hbd : bs.getD i 0 = b := by rw [List.getD_eq_getElem?_getD, hb]; rfl
    have hpd : (ls.map (·.1)).getD i ⟨#[]⟩ = pp.1 := by rw [List.getD_eq_getElem?_getD, List.getElem?_map, hpp]; rfl
    refine wpAny_BinOp (wpAny_IfExp (wpAny_isTrue_Compare1 (wpAny_Name (wpAny_loadName_local rfl rfl hn' hm1 (wpAny_Constant_int (PyProof.Rows.eq_int (wpAny_truthy_bool ?_)))))))
    rw [hbd, hpd]
    cases hbb : b == 0 with
    | true =>
      rw [if_pos rfl]
      refine wpAny_Constant_str (wpAny_Name (wpAny_loadName_local rfl rfl hn' hm2 (PyProof.Rows.add_str (fun t' tk' => ⟨⟨t', rfl⟩, h, _, rfl, fun _ _ e => e⟩) ?_)))
      rw [sizeLine_eq, show (Str.ofString "(").length = 1 from rfl]; omega
    | false =>
      rw [if_neg Bool.false_ne_true]
      refine wpAny_Constant_str (wpAny_Name (wpAny_loadName_local rfl rfl hn' hm2 (PyProof.Rows.add_str (fun t' tk' => ⟨⟨t', rfl⟩, h, _, rfl, fun _ _ e => e⟩) ?_)))
      rw [sizeLine_eq, show (Str.ofString ")").length = 1 from rfl]; omega
  · intro h' tk m' ys hn' hP hPr hk
    refine post_eval hn' fun h'' hs'' => ?_
    have hP'' := hP.extBut hs''.extBut (Nat.ne_of_lt (Nat.lt_succ_self _))
    rw [List.filter_eq_self.mpr (fun _ _ => rfl)] at hPr
    obtain ⟨l, rfl, hl⟩ := strs_of_paired hPr
    have hz : (l.map (·.1)) = List.zipWith (fun b p => (if b == 0 then Str.ofString "(" else Str.ofString ")") ++ p) bs (ls.map (·.1)) := by
      rw [hl]
      have hmin : min vs.toArray.size (strValues ls).toArray.size = min bs.length (ls.map (·.1)).length := by simp [strValues, hvl]
      rw [hmin]
      refine range_zipWith (fun b p => (if b == 0 then Str.ofString "(" else Str.ofString ")") ++ p) _ bs (ls.map (·.1)) fun i x y hx hy => ?_
      rw [List.getD_eq_getElem?_getD, List.getD_eq_getElem?_getD, hx, hy]; rfl
    have hok : JoinOk (Str.ofString "") (l.map (·.1)) = true := by
      refine joinOk_of (N := 11) (fun y hy => ?_) ?_
      · rw [hz] at hy
        obtain ⟨i, hi⟩ := List.mem_iff_getElem?.mp hy
        rw [List.getElem?_zipWith] at hi
        cases h1 : bs[i]? with
        | none => rw [h1] at hi; cases hi
        | some b =>
          cases h2 : (ls.map (·.1))[i]? with
          | none => rw [h1, h2] at hi; cases hi
          | some q =>
            rw [h1, h2] at hi
            cases hi
            have hq : q.length ≤ 10 := by
              rw [List.getElem?_map] at h2
              cases h3 : ls[i]? with
              | none => rw [h3] at h2; cases h2
              | some pp => rw [h3] at h2; cases h2; exact hlen pp (List.mem_of_getElem? h3)
            rw [Str.length_append]
            have : (if (b == 0) = true then Str.ofString "(" else Str.ofString ")").length = 1 := by split <;> rfl
            omega
      · have h1 := congrArg List.length hl
        rw [List.length_map, List.length_map, List.length_range] at h1
        rw [List.length_map, h1, sizeLine_eq]
        omega
    refine SC.join hP''.isList rfl hok fun t' k' => ?_
    rw [hz]
    exact hQ h'' k' t' fun b o e => by
      have e2 := F.keep b o e
      exact hs''.extBut b o (Nat.ne_of_lt (Nat.lt_succ_of_lt (Heap.lt_size (hk₂ b o e2)))) (hk b o (fun q => absurd (Heap.lt_size e2) (Nat.not_lt.mpr (hwr b q))) (hk₂ b o e2))
end
end Mine
end

section
open PySem PySem.W PyProof.Rows PySem.Calls
namespace Mine

def binRow (n : Nat) : List Int := [[1], [1, 1], [1, 2, 1], [1, 3, 3, 1], [1, 4, 6, 4, 1], [1, 5, 10, 10, 5, 1]].getD n []
def stayP (left : Nat) (height : Int) (ups : Nat) : Bool := decide (-height - 1 < 2 * (ups : Int) - left) && decide (2 * (ups : Int) - left ≤ height + 1)
def stayN (left : Nat) (height : Int) : Int := (((List.range (left + 1)).filter (stayP left height)).map fun i => (binRow left).getD i 0).sum

theorem ifb {b : Bool} {P R : Prop} (ht : b = true → P) (hf : b = false → R) : if b = true then P else R := by
  cases b with
  | true => exact ht rfl
  | false => exact hf rfl
theorem preSum_eq (val : Nat → Int) : ∀ n, preSum val n = ((List.range n).map val).sum
  | 0 => rfl
  | n + 1 => by rw [preSum, preSum_eq val n, List.range_succ, List.map_append, List.sum_append]; simp
theorem range_getD (ns : List Int) : (List.range ns.length).map (fun i => ns.getD i 0) = ns := by
  apply List.ext_getElem?
  intro i
  rw [List.getElem?_map]
  by_cases hi : i < ns.length
  · rw [List.getElem?_range hi, List.getElem?_eq_getElem hi]
    simp [List.getD_eq_getElem?_getD, List.getElem?_eq_getElem hi]
  · rw [List.getElem?_eq_none (by simpa using hi), List.getElem?_eq_none (by simpa using hi)]; rfl

section
variable {w : World} {mg mb : Str → Option Value} {A : Around} {s : Shared} {E : Value → Shared → Prop}

theorem sum_ok {l : Addr} {vs : List Value} {ns : List Int} {Q : Value → Shared → Prop} (hh : A.handled = none) (hl : s.heap.IsList l vs.toArray) (hI : IntsAre vs ns)
    (hQ : ∀ h' tk t, Kp s.heap h' → Q (.int ns.sum t) { s with heap := h', toks := tk }) : wpAny (model pr w) A (call (.builtin "sum") [.ref l]) Q E s := by
  have hlt : l < s.heap.objs.size := by obtain ⟨o, e, _⟩ := hl; exact Heap.lt_size e
  refine call_sum_walkG (wpAny_pyIter_list hl ⟨s.heap.objs.size, _, _, vs.toArray.size, _, _, fun i => ns.getD i 0, rfl, Walks.list (A := A.in1) hh s.heap.objs.size l (Nat.ne_of_lt hlt) vs.toArray, ⟨⟨_, Heap.get?_push_size _ rfl, rfl, rfl⟩, hl.push _⟩, ?_, ?_, ?_⟩)
  · intro b hb
    dsimp only
    rw [Heap.size_push]
    rcases List.mem_cons.mp hb with rfl | hb
    · exact Nat.lt_succ_self _
    · rw [List.mem_singleton.mp hb]; exact Nat.lt_succ_of_lt hlt
  · intro i v hv
    obtain ⟨t, e⟩ := IntsAre.int_at hI i v (by simpa using hv)
    exact ⟨t, e⟩
  · intro h' tk t' hk
    have e : preSum (fun i => ns.getD i 0) vs.toArray.size = ns.sum := by
      rw [preSum_eq, show vs.toArray.size = ns.length by simp [IntsAre.length hI], range_getD]
    rw [e]
    refine hQ h' tk t' fun b o eb => hk b o (fun q => ?_) (Heap.get?_push_of_some _ eb)
    rw [List.mem_singleton.mp q] at eb
    exact absurd (Heap.lt_size eb) (Nat.lt_irrefl _)

theorem enum_it {l : Addr} {xs : Array Value} {Q : Value → Shared → Prop} (hh : A.handled = none) (hl : s.heap.IsList l xs)
    (hQ : ∀ h' z fp wr St Mid, Kp s.heap h' → WalksT pr w A z fp wr xs.size (fun i vals => ∃ t x, xs[i]? = some x ∧ vals = #[.int (i : Nat) t, x]) St Mid → St 0 h' →
      (∀ b ∈ fp, b < h'.objs.size) → (∀ b ∈ wr, s.heap.objs.size ≤ b) → (∀ b ∈ fp, b = l ∨ s.heap.objs.size ≤ b) → Q (.ref z) { s with heap := h' }) :
    wpAny (model pr w) A (call (.type "enumerate") [.ref l]) (fun x s₁ => wpAny (model pr w) A (pyIter x) Q E s₁) E s := by
  have hlt : l < s.heap.objs.size := by obtain ⟨o, e, _⟩ := hl; exact Heap.lt_size e
  refine call_enumerate_list hl fun h' he hit hsz hk => wpAny_pyIter_enum he ?_
  refine hQ h' _ _ _ _ _ hk (WalksT.enumerate hh (s.heap.objs.size + 1) s.heap.objs.size l (Nat.succ_ne_self _) (Nat.ne_of_lt (Nat.lt_succ_of_lt hlt)) (Nat.ne_of_lt hlt) xs) ⟨⟨_, he⟩, hit, hl.at fun o e => hk _ o e⟩ ?_ ?_ ?_
  · intro b hb
    rw [hsz]
    simp only [List.mem_cons, List.not_mem_nil, or_false] at hb
    rcases hb with rfl | rfl | rfl
    · exact Nat.add_lt_add_left (by decide) _
    · exact Nat.lt_add_of_pos_right (by decide)
    · exact Nat.lt_of_lt_of_le hlt (Nat.le_add_right _ _)
  · intro b hb
    simp only [List.mem_cons, List.not_mem_nil, or_false] at hb
    rcases hb with rfl | rfl
    · exact Nat.le_succ _
    · exact Nat.le_refl _
  · intro b hb
    simp only [List.mem_cons, List.not_mem_nil, or_false] at hb
    rcases hb with rfl | rfl | rfl
    · exact .inr (Nat.le_succ _)
    · exact .inr (Nat.le_refl _)
    · exact .inl rfl

abbrev lo (x : List Value) : Obj := { cls := .type "list", data := .seq x.toArray }
theorem isList_lo {h : Heap} {a : Addr} {x : List Value} (e : h.get? a = some (lo x)) : h.IsList a x.toArray := ⟨_, e, rfl, _, rfl⟩
theorem six_lists {h : Heap} {N : Nat} (hN : h.objs.size = N) (x0 x1 x2 x3 x4 x5 x6 : List Value) :
    ∃ H, H = ((((((h.push (lo x0)).push (lo x1)).push (lo x2)).push (lo x3)).push (lo x4)).push (lo x5)).push (lo x6) ∧ Kp h H ∧ H.IsList (N + 1 + 1 + 1 + 1 + 1 + 1) x6.toArray ∧
      H.IsList N x0.toArray ∧ H.IsList (N + 1) x1.toArray ∧ H.IsList (N + 1 + 1) x2.toArray ∧ H.IsList (N + 1 + 1 + 1) x3.toArray ∧ H.IsList (N + 1 + 1 + 1 + 1) x4.toArray ∧ H.IsList (N + 1 + 1 + 1 + 1 + 1) x5.toArray := by
  have z1 : (h.push (lo x0)).objs.size = N + 1 := by rw [Heap.size_push, hN]
  have z2 : ((h.push (lo x0)).push (lo x1)).objs.size = N + 1 + 1 := by rw [Heap.size_push, z1]
  have z3 : (((h.push (lo x0)).push (lo x1)).push (lo x2)).objs.size = N + 1 + 1 + 1 := by rw [Heap.size_push, z2]
  have z4 : ((((h.push (lo x0)).push (lo x1)).push (lo x2)).push (lo x3)).objs.size = N + 1 + 1 + 1 + 1 := by rw [Heap.size_push, z3]
  have z5 : (((((h.push (lo x0)).push (lo x1)).push (lo x2)).push (lo x3)).push (lo x4)).objs.size = N + 1 + 1 + 1 + 1 + 1 := by rw [Heap.size_push, z4]
  have z6 : ((((((h.push (lo x0)).push (lo x1)).push (lo x2)).push (lo x3)).push (lo x4)).push (lo x5)).objs.size = N + 1 + 1 + 1 + 1 + 1 + 1 := by rw [Heap.size_push, z5]
  have up : ∀ (k : Heap) (o : Obj), Kp k (k.push o) := fun k o b o' e => Heap.get?_push_of_some _ e
  refine ⟨_, rfl, fun b o e => up _ _ _ _ (up _ _ _ _ (up _ _ _ _ (up _ _ _ _ (up _ _ _ _ (up _ _ _ _ (up _ _ _ _ e)))))), isList_lo (get_push z6 rfl), isList_lo ?_, isList_lo ?_, isList_lo ?_, isList_lo ?_, isList_lo ?_, isList_lo ?_⟩
  · exact up _ _ _ _ (up _ _ _ _ (up _ _ _ _ (up _ _ _ _ (up _ _ _ _ (up _ _ _ _ (get_push hN rfl))))))
  · exact up _ _ _ _ (up _ _ _ _ (up _ _ _ _ (up _ _ _ _ (up _ _ _ _ (get_push z1 rfl)))))
  · exact up _ _ _ _ (up _ _ _ _ (up _ _ _ _ (up _ _ _ _ (get_push z2 rfl))))
  · exact up _ _ _ _ (up _ _ _ _ (up _ _ _ _ (get_push z3 rfl)))
  · exact up _ _ _ _ (up _ _ _ _ (get_push z4 rfl))
  · exact up _ _ _ _ (get_push z5 rfl)

theorem itI {env : Env} {i : Int} {k : Nat} {p pos : Pos} {rest : List Expr} {Q : List Value → Shared → Prop}
    (h : wpAny (model pr w) A (spliced (backTo pos (starEach rest env))) (fun vs s₂ => Q (.int i s.toks :: vs) s₂) E { s with toks := s.toks + 1 }) :
    wpAny (model pr w) A (spliced (backTo pos (starEach (.Constant (.int i) k p :: rest) env))) Q E s := wpAny_items_cons (wpAny_Constant_int h)
theorem itL {env : Env} {elts : List Expr} {p pos : Pos} {rest : List Expr} {Q : List Value → Shared → Prop}
    (h : wpAny (model pr w) A (spliced (backTo p (starEach elts env))) (fun vs s₁ => vs.length ≤ sizeLine ∧ wpAny (model pr w) A (spliced (backTo pos (starEach rest env))) (fun vs' s₂ => Q (.ref s₁.heap.objs.size :: vs') s₂) E
      { s₁ with heap := s₁.heap.push { cls := .type "list", data := .seq vs.toArray } }) E s) :
    wpAny (model pr w) A (spliced (backTo pos (starEach (.List elts p :: rest) env))) Q E s := wpAny_items_cons (wpAny_List h)

set_option maxRecDepth 20000 in
set_option maxHeartbeats 4000000 in
theorem stay_ok {left : Nat} {height : Int} {t u : Tok} {Q : Value → Shared → Prop} (W : Wd w mg mb s.heap) (hh : A.handled = none) (hroom : A.depth < recursionLimit) (hn : left ≤ 5)
    (hQ : ∀ h' tk t', Kp s.heap h' → Q (.int (stayN left height) t') { s with heap := h', toks := tk }) :
    wpAny (model pr w) A (call (.ref 75) [.int (left : Nat) t, .int height u]) Q E s := by
  have hcd : s.heap.CodeRec (.ref 74) (Str.ofString "_law_stay") := ⟨74, _, _, _, rfl, W.K 74 _ rfl, rfl, rfl⟩
  refine wpAny_call (call_cells_ret (binds := [(Str.ofString "left", .int (left : Nat) t), (Str.ofString "height", .int height u)]) hroom (W.K 75 _ rfl) rfl W.lim hcd rfl
    (kinds_of ⟨.inr ⟨rfl, rfl⟩, .inr ⟨rfl, rfl⟩, trivial⟩) fun h₁ tk₁ F X => ?_)
  have hcl : h₁.IsCell (s.heap.objs.size + 1) (some (.int (left : Nat) t)) := X.cell (Str.ofString "left") _ rfl
  have hch : h₁.IsCell (s.heap.objs.size + 1 + 1) (some (.int height u)) := X.cell (Str.ofString "height") _ rfl
  have hme : mg (Str.ofString "enumerate") = none := mg_none_of W.K W.g (by with_unfolding_all rfl)
  have hms : mg (Str.ofString "sum") = none := mg_none_of W.K W.g (by with_unfolding_all rfl)
  refine wpAny_execs_cons ?_
  refine wpAny_Assign_Name ?_ ?hs
  case hs => rfl
  refine Subscript_ ?_
  refine wpAny_List ?_
  refine itL ?_
  refine itI ?_
  dsimp only
  refine wpAny_items_nil ⟨by size_fits, ?_⟩
  dsimp only
  refine itL ?_
  refine itI ?_
  dsimp only
  refine itI ?_
  dsimp only
  refine wpAny_items_nil ⟨by size_fits, ?_⟩
  dsimp only
  refine itL ?_
  refine itI ?_
  dsimp only
  refine itI ?_
  dsimp only
  refine itI ?_
  dsimp only
  refine wpAny_items_nil ⟨by size_fits, ?_⟩
  dsimp only
  refine itL ?_
  refine itI ?_
  dsimp only
  refine itI ?_
  dsimp only
  refine itI ?_
  dsimp only
  refine itI ?_
  dsimp only
  refine wpAny_items_nil ⟨by size_fits, ?_⟩
  dsimp only
  refine itL ?_
  refine itI ?_
  dsimp only
  refine itI ?_
  dsimp only
  refine itI ?_
  dsimp only
  refine itI ?_
  dsimp only
  refine itI ?_
  dsimp only
  refine wpAny_items_nil ⟨by size_fits, ?_⟩
  dsimp only
  refine itL ?_
  refine itI ?_
  dsimp only
  refine itI ?_
  dsimp only
  refine itI ?_
  dsimp only
  refine itI ?_
  dsimp only
  refine itI ?_
  dsimp only
  refine itI ?_
  dsimp only
  refine wpAny_items_nil ⟨by size_fits, ?_⟩
  dsimp only
  refine wpAny_items_nil ⟨by size_fits, ?_⟩
  dsimp only
  refine wpAny_Name (wpAny_loadName_cell rfl rfl rfl (hcl.keeps fun b o e => ?_) ?_)
  · repeat refine Heap.get?_push_of_some _ ?_
    exact e
  simp only [Heap.size_push]
  obtain ⟨N, hN⟩ : ∃ N, h₁.objs.size = N := ⟨_, rfl⟩
  rw [hN]
  obtain ⟨H, hH, hk, o6, o0, o1, o2, o3, o4, o5⟩ := six_lists hN _ _ _ _ _ _ _
  rw [← hH]
  clear hH
  have pick : ∃ a vs, ([.ref N, .ref (N + 1), .ref (N + 1 + 1), .ref (N + 1 + 1 + 1), .ref (N + 1 + 1 + 1 + 1), .ref (N + 1 + 1 + 1 + 1 + 1)] : List Value)[left]? = some (.ref a) ∧ H.IsList a (List.toArray vs) ∧ IntsAre vs (binRow left) := by
    rcases (show left = 0 ∨ left = 1 ∨ left = 2 ∨ left = 3 ∨ left = 4 ∨ left = 5 by omega) with rfl | rfl | rfl | rfl | rfl | rfl
    · exact ⟨_, _, rfl, o0, .cons _ _ .nil⟩
    · exact ⟨_, _, rfl, o1, .cons _ _ (.cons _ _ .nil)⟩
    · exact ⟨_, _, rfl, o2, .cons _ _ (.cons _ _ (.cons _ _ .nil))⟩
    · exact ⟨_, _, rfl, o3, .cons _ _ (.cons _ _ (.cons _ _ (.cons _ _ .nil)))⟩
    · exact ⟨_, _, rfl, o4, .cons _ _ (.cons _ _ (.cons _ _ (.cons _ _ (.cons _ _ .nil))))⟩
    · exact ⟨_, _, rfl, o5, .cons _ _ (.cons _ _ (.cons _ _ (.cons _ _ (.cons _ _ (.cons _ _ .nil)))))⟩
  obtain ⟨a, vs, hpa, hla, hIa⟩ := pick
  refine tail_any (ops := [.ref (N + 1 + 1 + 1 + 1 + 1 + 1), .int (left : Nat) t]) o6.typeIs slot_list_getitem.lookup (wpAny_getItem_list (x := .ref a) o6 (Int.natCast_nonneg _) (by omega) (by rw [Int.toNat_natCast]; simpa using hpa) ?_) (by with_unfolding_all rfl)
  have hcl' := hcl.keeps hk
  have hch' := hch.keeps hk
  have F' : Fr s.heap s.heap.objs.size H _ := ⟨F.ns.keeps hk, fun b o e => hk b o (F.keep b o e), F.above⟩
  have haL : a ≠ s.heap.objs.size := by
    intro q
    obtain ⟨oL, _, _, hL, hd, _⟩ := F'.ns
    obtain ⟨ol, hol, _, n', hd'⟩ := hla
    rw [q, hL] at hol
    cases hol
    rw [hd] at hd'
    cases hd'
  refine wpAny_storeName_local rfl F'.ns (fun h₂ hn₂ hs₂ => ?_) rfl
  have F₂ := F'.set hn₂ hs₂
  replace hcl' := hcl'.sameBut hs₂ (Nat.succ_ne_self _)
  replace hch' := hch'.sameBut hs₂ (Nat.ne_of_gt (Nat.lt_succ_of_lt (Nat.lt_succ_self _)))
  replace hla := hla.extBut hs₂.extBut haL
  dsimp only at F₂ hn₂ hs₂ ⊢
  clear o0 o1 o2 o3 o4 o5 o6 hs₂
  have hvl : vs.length = left + 1 := by
    have := IntsAre.length hIa
    rcases (show left = 0 ∨ left = 1 ∨ left = 2 ∨ left = 3 ∨ left = 4 ∨ left = 5 by omega) with rfl | rfl | rfl | rfl | rfl | rfl <;> simpa [binRow] using this
  refine wpAny_execs_cons (wpAny_Return_some (Call_ (Name_function_global rfl rfl (loadGlobal_builtin (W.g.keeps F₂.keep) hms (W.b.keeps F₂.keep) ((W.bb _ (by decide)).trans boot_sum) ?_))))
  refine callWith_builtin1 (args_cons (comp_eval rfl rfl (by decide) (Call_ (Name_function_global rfl rfl (loadGlobal_builtin (W.g.keeps F₂.keep) hme (W.b.keeps F₂.keep) ((W.bb _ (by decide)).trans boot_enumerate) ?_)))))
  refine PyProof.Rows.callWith_type1 (args_cons (wpAny_Name (wpAny_loadName_local rfl rfl hn₂ rfl (args_nil ?_))))
  refine enum_it (deep hh) hla fun h₃ z fp wr St Mid hk₃ WT hst hfp hwr _ => ?_
  dsimp only at hk₃ hwr
  refine comp_block (n := vs.toArray.size) (feeds_two (deep hh) WT (fun i vals ⟨t, x, _, e⟩ => ⟨_, _, e⟩) rfl rfl (by decide) rfl) (stayP left height)
    (fun i y _ => ∃ t, y = .int ((binRow left).getD i 0) t) (by decide) rfl hst hfp (fun _ _ _ _ q _ => q) ?_ ?_ (by simp; omega) ?_
  · rintro i h tk m₂ E' hi ⟨u', v', ⟨t', x', hx, e⟩, hm1, hm2⟩ hn' hk'
    simp only [Array.mk.injEq, List.cons.injEq, and_true] at e
    obtain ⟨rfl, rfl⟩ := e
    have off : ∀ b o, h₂.get? b = some o → h.get? b = some o := fun b o e => hk' b o (fun q => absurd (Heap.lt_size e) (Nat.not_lt.mpr (hwr b q))) (hk₃ b o e)
    refine wpAny_tests_one (isTrue_chain (wpAny_BinOp (wpAny_UnaryOp (wpAny_Name (wpAny_loadName_cell rfl rfl rfl (hch'.keeps off) (PyProof.Rows.neg_int (wpAny_Constant_int (PyProof.Rows.sub_int ?_))))))))
    refine test_link (wpAny_BinOp (wpAny_BinOp (wpAny_Constant_int (wpAny_Name (wpAny_loadName_local rfl rfl hn' hm1 (PyProof.Rows.mul_int ?_ ?_))))))
    · refine wpAny_Name (wpAny_loadName_cell rfl rfl rfl (hcl'.keeps off) (PyProof.Rows.sub_int (PyProof.Rows.lt_int (wpAny_truthy_bool ?_))))
      refine ifb (fun h1 => ?_) (fun h1 => ?_)
      · refine test_last (wpAny_BinOp (wpAny_Name (wpAny_loadName_cell rfl rfl rfl (hch'.keeps off) (wpAny_Constant_int (PyProof.Rows.add_int (PyProof.Rows.le_int (wpAny_truthy_bool ⟨?_, h, _, rfl, fun _ _ e => e⟩)))))))
        rw [stayP, h1, Bool.true_and]
      · refine ⟨?_, h, _, rfl, fun _ _ e => e⟩
        rw [stayP, h1, Bool.false_and]
    · exact IntMulOk.of_left (by decide +kernel)
  · rintro i h tk m₂ E' hi - ⟨u', v', ⟨t', x', hx, e⟩, hm1, hm2⟩ hn' hk'
    simp only [Array.mk.injEq, List.cons.injEq, and_true] at e
    obtain ⟨rfl, rfl⟩ := e
    obtain ⟨t2, rfl⟩ := IntsAre.int_at hIa i v' (by simpa using hx)
    exact wpAny_Name (wpAny_loadName_local rfl rfl hn' hm2 ⟨⟨t2, rfl⟩, h, tk, rfl, fun _ _ e => e⟩)
  · intro h' tk m' ys hn' hP hPr hk'
    refine post_eval hn' fun h'' hs'' => args_nil ?_
    have hP'' := hP.extBut hs''.extBut (Nat.ne_of_lt (Nat.lt_succ_self _))
    refine sum_ok (deep hh) hP''.isList (ints_of_paired hPr) fun h₅ tk₅ t₅ hk₅ => ?_
    rw [show vs.toArray.size = left + 1 by simpa using hvl]
    refine hQ h₅ tk₅ t₅ fun b o e => hk₅ b o ?_
    have e2 := F₂.keep b o e
    exact hs''.extBut b o (Nat.ne_of_lt (Nat.lt_succ_of_lt (Heap.lt_size (hk₃ b o e2)))) (hk' b o (fun q => absurd (Heap.lt_size e2) (Nat.not_lt.mpr (hwr b q))) (hk₃ b o e2))
end
end Mine
end

section
open PySem PySem.W PyProof.Rows PySem.Calls
namespace Mine

def aheadRun (n : Nat) : Nat → Int → Int → List Int → Int × Int
  | _, many, _, [] => (many, many + 1)
  | place, many, h, b :: r =>
    if h + (1 - 2 * b) < 0 then ((if b = 1 then many + stayN (n - place - 1) (h + 1) else many), (if b = 1 then many + stayN (n - place - 1) (h + 1) else many))
    else aheadRun n (place + 1) (if b = 1 then many + stayN (n - place - 1) (h + 1) else many) (h + (1 - 2 * b)) r
def aheadN (bs : List Int) (height : Int) : Int × Int := aheadRun bs.length 0 0 height bs

section
variable {w : World} {mg mb : Str → Option Value} {A : Around} {s : Shared} {E : Value → Shared → Prop}

theorem stay_ok' {left : Nat} {z height : Int} {t u : Tok} {Q : Value → Shared → Prop} (hz : z = (left : Nat)) (W : Wd w mg mb s.heap) (hh : A.handled = none) (hroom : A.depth < recursionLimit) (hn : left ≤ 5)
    (hQ : ∀ h' tk t', Kp s.heap h' → Q (.int (stayN left height) t') { s with heap := h', toks := tk }) : wpAny (model pr w) A (call (.ref 75) [.int z t, .int height u]) Q E s := by
  subst hz
  exact stay_ok W hh hroom hn hQ

theorem for_two {env : Env} {xi xc : Str} {pk pv pt : Pos} {x1 : Nat} {body : List Stmt} {R : Result → Shared → Prop} {I : Addr} {fp wr : List Addr} {n : Nat} {Pt : Nat → Array Value → Prop} {St : Nat → Heap → Prop} {Mid : Nat → Addr → Heap → Prop} {m : Str → Option Value}
    (hh : A.handled = none) (W : WalksT pr w A I fp wr n Pt St Mid) (h2 : ∀ i vals, Pt i vals → ∃ u v, vals = #[u, v]) (hxi : env.kindOf xi = some .local) (hxc : env.kindOf xc = some .local)
    (hp : (env.scope.kind == .class || (env.scope.kind == .module && env.locals != env.globals)) = false) (hLf : env.locals ∉ fp) (hst : St 0 s.heap) (hn : s.heap.Ns env.locals m)
    (J : Nat → (Str → Option Value) → Heap → Prop) (hJ : ∀ i m h h', J i m h → (∀ b o, b ∉ wr → b ≠ env.locals → h.get? b = some o → h'.get? b = some o) → J i m h') (h0 : J 0 m s.heap)
    (step : ∀ i u v m₁ h tk, i < n → Pt i #[u, v] → J i m₁ h → h.Ns env.locals (fun y => if y = xc then some v else if y = xi then some u else m₁ y) →
      wpAny (model pr w) A (execs body env) (fun f s₂ => match f with
        | .next | .cont => ∃ h₂ tk₂ m₂, s₂ = { s with heap := h₂, toks := tk₂ } ∧ h₂.Ns env.locals m₂ ∧ (∀ b ∈ fp, ∀ o, h.get? b = some o → h₂.get? b = some o) ∧ J (i + 1) m₂ h₂
        | .brk => R (.ok .next) s₂
        | .ret v => R (.ok (.ret v)) s₂) (notedBy (model pr w) A env fun e s' => R (.error e) s') { s with heap := h, toks := tk })
    (done : ∀ m₁ h tk, J n m₁ h → h.Ns env.locals m₁ → R (.ok .next) { s with heap := h, toks := tk }) :
    codeAny (model pr w) A (.forLoop (.Tuple [.Name xi pk, .Name xc pv] x1 pt) (.ref I) body [] env) R s := by
  have hLw : env.locals ∉ wr := fun q => hLf (W.sub _ q)
  refine codeAny_forLoop_any (I := fun k s' => ∃ i h tk m₁, s' = { s with heap := h, toks := tk } ∧ k = n + 1 - i ∧ i ≤ n ∧ St i h ∧ h.Ns env.locals m₁ ∧ J i m₁ h) ?_ (n + 1) ⟨0, _, _, m, rfl, rfl, Nat.zero_le _, hst, hn, h0⟩
  rintro k s' ⟨i, h, tk, m₁, rfl, rfl, hi, hst', hn', hJ'⟩
  by_cases hlt : i < n
  · refine W.item i _ _ _ hlt hst' fun T vals h₁ tk₁ hP hT hTup hMid hk₁ => ?_
    obtain ⟨u, v, rfl⟩ := h2 i vals hP
    refine W.go _ x1 pt i T _ _ _ hMid fun h₂ hst₂ hk₂ => ?_
    refine wpAny_assign_Tuple hh (hTup.at fun o e => hk₂ T o (W.apart i T h₁ hMid) e) rfl rfl fun h₃ hx₃ => ?_
    dsimp only at hx₃ hk₂ hk₁
    have up : ∀ b o, b ∉ wr → h.get? b = some o → h₃.get? b = some o := fun b o b1 e => by
      have := hk₂ b o b1 (hk₁ b o b1 e)
      exact hx₃ b o (Nat.ne_of_lt (Heap.lt_size this)) this
    show wpAny _ _ (do holding [_] (assign (.Name _ _) _ _); do holding [] (assign (.Name _ _) _ _); pure ()) _ _ _
    refine wpAny_bind (wpAny_holding (wpAny_assign_Name (wpAny_storeName_local hxi (hn'.at' fun o e => up _ o hLw e) (fun h₄ hn₄ hs₄ => ?_) hp)))
    refine wpAny_bind (wpAny_holding (wpAny_assign_Name (wpAny_storeName_local hxc hn₄ (fun h₅ hn₅ hs₅ => wpAny_pure ?_) hp)))
    dsimp only at hs₄ hs₅ hn₅ ⊢
    have hst₅ : St (i + 1) h₅ := W.frame _ _ _ hst₂ fun b hb o e => by
      have hbC : b ≠ env.locals := fun q => hLf (q ▸ hb)
      exact hs₅.extBut b o hbC (hs₄.extBut b o hbC (hx₃ b o (Nat.ne_of_lt (Heap.lt_size e)) e))
    refine wpAny_mono (step i u v m₁ h₅ _ hlt hP (hJ _ _ _ _ hJ' fun b o b1 b2 e => hs₅.extBut b o b2 (hs₄.extBut b o b2 (up b o b1 e))) hn₅) (fun f s₂ hf => ?_) fun _ _ e => e
    have fin : (∃ h₂ tk₂ m₂, s₂ = { s with heap := h₂, toks := tk₂ } ∧ h₂.Ns env.locals m₂ ∧ (∀ b ∈ fp, ∀ o, h₅.get? b = some o → h₂.get? b = some o) ∧ J (i + 1) m₂ h₂) →
        ∃ k', k' < n + 1 - i ∧ ∃ i' h tk m₁, s₂ = { s with heap := h, toks := tk } ∧ k' = n + 1 - i' ∧ i' ≤ n ∧ St i' h ∧ h.Ns env.locals m₁ ∧ J i' m₁ h := by
      rintro ⟨h₆, tk₆, m₆, rfl, q1, q2, q3⟩
      exact ⟨n + 1 - (i + 1), by omega, i + 1, h₆, tk₆, m₆, rfl, rfl, hlt, W.frame _ _ _ hst₅ q2, q1, q3⟩
    cases f with
    | next => exact fin hf
    | cont => exact fin hf
    | brk => exact hf
    | ret v => exact hf
  · have hin : i = n := Nat.le_antisymm hi (Nat.not_lt.mp hlt)
    subst hin
    refine W.done _ _ _ hst' fun h₁ tk₁ hk₁ => wpAny_execs_nil ?_
    dsimp only at hk₁ ⊢
    exact done m₁ h₁ tk₁ (hJ _ _ _ _ hJ' fun b o b1 _ e => hk₁ b o b1 e) (hn'.at' fun o e => hk₁ _ o hLw e)

set_option maxRecDepth 20000 in
set_option maxHeartbeats 4000000 in
theorem ahead_ok {l : Addr} {vs : List Value} {bs : List Int} {height : Int} {u : Tok} {Q : Value → Shared → Prop} (W : Wd w mg mb s.heap) (hh : A.handled = none) (hroom : A.depth + 1 < recursionLimit)
    (hl : s.heap.IsList l vs.toArray) (hI : IntsAre vs bs) (hn : bs.length ≤ 5)
    (hQ : ∀ h' tk a t1 t2, Kp s.heap h' → h'.IsTuple a #[.int (aheadN bs height).1 t1, .int (aheadN bs height).2 t2] → Q (.ref a) { s with heap := h', toks := tk }) :
    wpAny (model pr w) A (call (.ref 82) [.ref l, .int height u]) Q E s := by
  have hQ' : ∀ h' tk a t1 t2 x y, aheadN bs height = (x, y) → Kp s.heap h' → h'.IsTuple a #[.int x t1, .int y t2] → Q (.ref a) { s with heap := h', toks := tk } := by
    intro h' tk a t1 t2 x y e q1 q2
    refine hQ h' tk a t1 t2 q1 ?_
    rw [e]; exact q2
  have hcd : s.heap.CodeRec (.ref 81) (Str.ofString "_law_ahead") := ⟨81, _, _, _, rfl, W.K 81 _ rfl, rfl, rfl⟩
  refine wpAny_call (call_pos_ret (Nat.lt_of_succ_lt hroom) (W.K 82 _ rfl) rfl W.lim hcd rfl (locs rfl) fun h₁ F => ?_)
  have hme : mg (Str.ofString "enumerate") = none := mg_none_of W.K W.g (by with_unfolding_all rfl)
  have hml : mg (Str.ofString "len") = none := mg_none_of W.K W.g (by with_unfolding_all rfl)
  have hms : mg (Str.ofString "_law_stay") = some (.ref 75) := mg_of W.K W.g (by with_unfolding_all rfl)
  have hvl : vs.length = bs.length := by have := IntsAre.length hI; omega
  refine wpAny_execs_cons (wpAny_Assign_Name (wpAny_Constant_int (st F fun h₂ F₂ => ?_)))
  dsimp only at F₂ ⊢
  refine wpAny_execs_cons (wpAny_For (Call_ (Name_function_global rfl rfl (loadGlobal_builtin (W.g.keeps F₂.keep) hme (W.b.keeps F₂.keep) ((W.bb _ (by decide)).trans boot_enumerate) ?_))))
  refine PyProof.Rows.callWith_type1 (args_cons (wpAny_Name (wpAny_loadName_local rfl rfl F₂.ns rfl (args_nil ?_))))
  have hl₂ : h₂.IsList l vs.toArray := hl.at fun o e => F₂.keep _ o e
  refine enum_it (deep hh) hl₂ fun h₃ z fp wr St Mid hk₃ WT hst hfp hwr hfl => ?_
  dsimp only at hk₃ hwr hfl ⊢
  have hlt : l < s.heap.objs.size := by obtain ⟨o, e, _⟩ := hl; exact Heap.lt_size e
  have hLf : s.heap.objs.size ∉ fp := fun q => by
    rcases hfl _ q with h | h
    · exact absurd hlt (h ▸ Nat.lt_irrefl _)
    · exact absurd F₂.ns.lt (Nat.not_lt.mpr h)
  have hfne : ∀ b ∈ fp, b ≠ s.heap.objs.size := fun b hb r => hLf (r ▸ hb)
  have hsz : vs.toArray.size = bs.length := by simpa using hvl
  rw [hsz] at WT
  refine for_two (deep hh) WT (fun i vals ⟨t, x, _, e⟩ => ⟨_, _, e⟩) rfl rfl rfl hLf hst (F₂.ns.keeps hk₃)
    (J := fun i m h => Kp s.heap h ∧ m (Str.ofString "row") = some (.ref l) ∧ ∃ many tm ht th, m (Str.ofString "many") = some (.int many tm) ∧ m (Str.ofString "height") = some (.int ht th) ∧ aheadN bs height = aheadRun bs.length i many ht (bs.drop i)) ?_ ?_ ?_ ?_
  · rintro i m h h' ⟨q1, q2⟩ hk
    exact ⟨fun b o e => hk b o (fun q => absurd (Nat.lt_of_lt_of_le (Nat.lt_of_lt_of_le (Heap.lt_size e) (Nat.le_of_lt F₂.ns.lt)) (hwr b q)) (Nat.lt_irrefl _)) (Nat.ne_of_lt (Heap.lt_size e)) (q1 b o e), q2⟩
  · exact ⟨fun b o e => hk₃ b o (F₂.keep b o e), rfl, 0, _, height, _, rfl, rfl, rfl⟩
  · rintro i uu v m h tk hi ⟨tt, x, hx, e⟩ ⟨hk, a1, many, tm, ht, th, a2, a3, a4⟩ hn'
    simp only [Array.mk.injEq, List.cons.injEq, and_true] at e
    obtain ⟨rfl, rfl⟩ := e
    obtain ⟨b, tb, rfl, hb⟩ := IntsAre.at hI i v (by simpa using hx)
    rw [drop_get hb] at a4
    have hli : h.IsList l vs.toArray := hl.at fun o e => hk _ o e
    have hsm : ∀ {h₂ : Heap}, Heap.SameBut s.heap.objs.size h h₂ → Kp s.heap h₂ ∧ ∀ b ∈ fp, ∀ o, h.get? b = some o → h₂.get? b = some o := fun q =>
      ⟨fun b o e => q.extBut b o (Nat.ne_of_lt (Heap.lt_size e)) (hk b o e), fun b hb o e => q.extBut b o (hfne b hb) e⟩
    refine wpAny_execs_cons (wpAny_mono (Q := fun f s' => f = .next ∧ ∃ h₄ tk₄ m₄ tm', s' = { s with heap := h₄, toks := tk₄ } ∧ h₄.Ns s.heap.objs.size m₄ ∧ Kp s.heap h₄ ∧ (∀ b ∈ fp, ∀ o, h.get? b = some o → h₄.get? b = some o) ∧ m₄ (Str.ofString "row") = some (.ref l) ∧
        m₄ (Str.ofString "bit") = some (.int b tb) ∧ m₄ (Str.ofString "many") = some (.int (if b = 1 then many + stayN (bs.length - i - 1) (ht + 1) else many) tm') ∧ m₄ (Str.ofString "height") = some (.int ht th)) ?_ ?_ fun _ _ e => e)
    · refine wpAny_If (wpAny_isTrue_Compare1 (wpAny_Name (wpAny_loadName_local rfl rfl hn' rfl (wpAny_Constant_int (PyProof.Rows.eq_int (wpAny_truthy_bool (ifb (fun h1 => ?_) (fun h1 => ?_))))))))
      · have hb1 : b = 1 := by simpa using h1
        refine wpAny_execs_cons (wpAny_AugAssign_Name (wpAny_loadName_local rfl rfl hn' a2 (Call_ (Name_function_global rfl rfl (loadGlobal_global (W.g.keeps hk) hms ?_)))))
        refine callWith_K W.K (by with_unfolding_all rfl) (args_cons (wpAny_BinOp (wpAny_BinOp (Call_ (Name_function_global rfl rfl (loadGlobal_builtin (W.g.keeps hk) hml (W.b.keeps hk) ((W.bb _ (by decide)).trans boot_len) ?_))))))
        refine callWith_builtin1 (args_cons (wpAny_Name (wpAny_loadName_local rfl rfl hn' a1 (args_nil (PyProof.Rows.len_list hli (by rw [hsz]; omega) ?_)))))
        refine wpAny_Name (wpAny_loadName_local rfl rfl hn' rfl (PyProof.Rows.sub_int (wpAny_Constant_int (PyProof.Rows.sub_int ?_))))
        refine args_cons (wpAny_BinOp (wpAny_Name (wpAny_loadName_local rfl rfl hn' a3 (wpAny_Constant_int (PyProof.Rows.add_int (args_nil ⟨W.K.keeps hk, ?_⟩))))))
        refine stay_ok' (left := bs.length - i - 1) (by rw [hsz]; omega) (W.keeps hk) hh hroom (by omega) fun h₄ tk₄ t₄ hk₄ => ?_
        dsimp only at hk₄
        refine wpAny_iadd_int (wpAny_storeName_local rfl (hn'.keeps hk₄) (fun h₅ hn₅ hs₅ => wpAny_execs_nil ?_) rfl)
        dsimp only at hn₅ hs₅ ⊢
        exact ⟨rfl, h₅, _, _, _, rfl, hn₅, fun b o e => hs₅.extBut b o (Nat.ne_of_lt (Heap.lt_size e)) (hk₄ b o (hk b o e)), fun b hb o e => hs₅.extBut b o (hfne b hb) (hk₄ b o e), a1, rfl, congrArg (fun z => some (Value.int z _)) (if_pos hb1).symm, a3⟩
      · have hb1 : ¬ b = 1 := by simpa using h1
        refine wpAny_execs_nil ⟨rfl, h, _, _, tm, rfl, hn', hk, fun _ _ _ e => e, a1, rfl, ?_, a3⟩
        rw [if_neg hb1]; exact a2
    · rintro f s' ⟨rfl, h₄, tk₄, m₄, tm', rfl, q1, q2, q3, q4, q5, q6, q7⟩
      dsimp only
      generalize hmm : (if b = 1 then many + stayN (bs.length - i - 1) (ht + 1) else many) = many' at q6
      rw [aheadRun, hmm] at a4
      refine wpAny_execs_cons (wpAny_AugAssign_Name (wpAny_loadName_local rfl rfl q1 q7 (wpAny_BinOp (wpAny_Constant_int (wpAny_BinOp (wpAny_Constant_int (wpAny_Name (wpAny_loadName_local rfl rfl q1 q5 (PyProof.Rows.mul_int ?_ (IntMulOk.of_left (by decide +kernel)))))))))))
      refine PyProof.Rows.sub_int (wpAny_iadd_int (wpAny_storeName_local rfl q1 (fun h₅ hn₅ hs₅ => ?_) rfl))
      dsimp only at hn₅ hs₅ ⊢
      have k5 : Kp s.heap h₅ := fun b o e => hs₅.extBut b o (Nat.ne_of_lt (Heap.lt_size e)) (q2 b o e)
      refine wpAny_execs_cons (wpAny_If (wpAny_isTrue_Compare1 (wpAny_Name (wpAny_loadName_local rfl rfl hn₅ rfl (wpAny_Constant_int (PyProof.Rows.lt_int (wpAny_truthy_bool (ifb (fun h1 => ?_) (fun h1 => ?_)))))))))
      · have h2 := of_decide_eq_true h1
        rw [if_pos h2] at a4
        refine wpAny_execs_cons (wpAny_Return_some (wpAny_Tuple (wpAny_items_cons (wpAny_Name (wpAny_loadName_local rfl rfl hn₅ q6 (wpAny_items_cons (wpAny_Name (wpAny_loadName_local rfl rfl hn₅ q6 (wpAny_items_nil ⟨by size_fits, ?_⟩)))))))))
        exact hQ' _ _ _ _ _ _ _ a4 (fun b o e => Heap.get?_push_of_some _ (k5 b o e)) ⟨_, Heap.get?_push_size _ rfl, rfl, _, rfl⟩
      · have h2 := of_decide_eq_false h1
        rw [if_neg h2] at a4
        refine wpAny_execs_nil (wpAny_execs_nil ⟨h₅, _, _, rfl, hn₅, fun b hb o e => hs₅.extBut b o (hfne b hb) (q3 b hb o e), k5, q4, many', tm', _, _, q6, rfl, a4⟩)
  · rintro m h tk ⟨hk, a1, many, tm, ht, th, a2, a3, a4⟩ hn'
    rw [List.drop_length, aheadRun] at a4
    refine wpAny_execs_cons (wpAny_Return_some (wpAny_Tuple (wpAny_items_cons (wpAny_Name (wpAny_loadName_local rfl rfl hn' a2 (wpAny_items_cons (wpAny_BinOp (wpAny_Name (wpAny_loadName_local rfl rfl hn' a2 (wpAny_Constant_int (PyProof.Rows.add_int (wpAny_items_nil ⟨by size_fits, ?_⟩))))))))))))
    exact hQ' _ _ _ _ _ _ _ a4 (fun b o e => Heap.get?_push_of_some _ (hk b o e)) ⟨_, Heap.get?_push_size _ rfl, rfl, _, rfl⟩
end
end Mine
end

section
open PySem PySem.W PyProof.Rows PySem.Calls
namespace Mine

theorem typeCall_zip_3 (a b c : Value) : checkTypeCall "zip" ⟨[a, b, c], []⟩ = pure () := by kernel_rfl
theorem newCall_zip_3 (a b c : Value) : checkBuiltinCall "zip.__new__" ⟨[.type "zip", a, b, c], []⟩ = pure () := by kernel_rfl
theorem args_object_init_4 (a b c d : Value) : argsOk "object.__init__" ⟨[a, b, c, d], []⟩ := by
  unfold argsOk; rw [signature?_of (id := "object.__init__") (n := ['_', '_', 't', 'i', 'n', 'i', '_', '_']) (o := ['t', 'c', 'e', 'j', 'b', 'o']) (by kernel_rfl) PySem.F.owner_object]; kernel_rfl

abbrev IsTri (h : Heap) (T : Addr) (a b c : Value) : Prop := h.get? T = some { cls := .type "tuple", data := .seq #[a, b, c] }

section
variable {prog : Program} {w : World} {A : Around} {E : Value → Shared → Prop} {s : Shared}

theorem wpAny_updateSeq_tri {T : Addr} {a b c x : Value} {k : Nat} {Q : Unit → Shared → Prop} (hT : IsTri s.heap T a b c)
    (h : ∀ h', h'.get? T = some { cls := .type "tuple", data := .seq ((#[a, b, c] : Array Value).setIfInBounds k x) } → Heap.SameBut T s.heap h' → Q () { s with heap := h' }) :
    wpAny (model prog w) A (updateSeq T (·.setIfInBounds k x)) Q E s := by
  refine wpAny_updateSeq hT rfl (h _ ?_ (Heap.SameBut.update ..))
  rw [Heap.get?_update_self _ hT rfl]
  simp [Obj.mapSeq]

structure ZA (z TI TO i1 i2 i3 l1 l2 l3 : Addr) : Prop where
  TOz : TO ≠ z
  i1z : i1 ≠ z
  i2z : i2 ≠ z
  i3z : i3 ≠ z
  TOi1 : TO ≠ i1
  TOi2 : TO ≠ i2
  TOi3 : TO ≠ i3
  i12 : i1 ≠ i2
  i13 : i1 ≠ i3
  i23 : i2 ≠ i3
  far : ∀ c, c = TI ∨ c = l1 ∨ c = l2 ∨ c = l3 → c ≠ z ∧ c ≠ TO ∧ c ≠ i1 ∧ c ≠ i2 ∧ c ≠ i3

theorem zip3_next_item {z TI TO i1 i2 i3 l1 l2 l3 : Addr} {k : Nat} {xs ys zs : Array Value} {x y u a b c : Value} {Q : Value → Shared → Prop} (D : ZA z TI TO i1 i2 i3 l1 l2 l3)
    (hz : IsZip s.heap z TI TO .none) (hTI : IsTri s.heap TI (.ref i1) (.ref i2) (.ref i3)) (hTO : IsTri s.heap TO a b c)
    (h1 : s.heap.IsListIter i1 l1 k) (h2 : s.heap.IsListIter i2 l2 k) (h3 : s.heap.IsListIter i3 l3 k) (hl1 : s.heap.IsList l1 xs) (hl2 : s.heap.IsList l2 ys) (hl3 : s.heap.IsList l3 zs) (hx : xs[k]? = some x) (hy : ys[k]? = some y) (hu : zs[k]? = some u)
    (hQ : ∀ h', IsZip h' z TI TO (rawInt s.heap.objs.size) → IsTri h' TO x y u → h'.IsListIter i1 l1 (k + 1) → h'.IsListIter i2 l2 (k + 1) → h'.IsListIter i3 l3 (k + 1) → IsTri h' s.heap.objs.size x y u → h'.objs.size = s.heap.objs.size + 1 →
      (∀ c o, c ≠ z → c ≠ TO → c ≠ i1 → c ≠ i2 → c ≠ i3 → s.heap.get? c = some o → h'.get? c = some o) → Q (.ref s.heap.objs.size) { s with heap := h' }) :
    wpAny (model prog w) A (Builtin.«zip.__next__» ⟨[.ref z], []⟩) (fun fin s' => ∃ v, fin = .done (.ret v) ∧ Q v s') E s := by
  obtain ⟨l1z, l1TO, l1i1, l1i2, l1i3⟩ := D.far l1 (by simp)
  obtain ⟨l2z, l2TO, l2i1, l2i2, l2i3⟩ := D.far l2 (by simp)
  obtain ⟨l3z, l3TO, l3i1, l3i2, l3i3⟩ := D.far l3 (by simp)
  show wpAny _ _ (field (.ref z) 2 >>= _) _ _ _
  refine wpAny_bind (wpAny_field hz rfl (x := .bool false) rfl ?_)
  show wpAny _ _ (field (.ref z) 3 >>= _) _ _ _
  refine wpAny_bind (wpAny_field hz rfl (x := .ref TI) rfl ?_)
  refine wpAny_bind (wpAny_seqItems hTI rfl ?_)
  show wpAny _ _ (Builtin.SmallTypes.ownedTupleIsFree (.ref z) >>= _) _ _ _
  refine wpAny_bind ?_
  unfold Builtin.SmallTypes.ownedTupleIsFree
  refine wpAny_bind (wpAny_field hz rfl (x := .none) rfl (wpAny_pure ?_))
  simp only [if_true]
  refine wpAny_bind (wpAny_rule ?_)
  refine wpAny_bind (wpAny_field hz rfl (x := .ref TO) rfl ?_)
  refine wpAny_bind (wpAny_setField_rec hz (by simp) fun h₁ hz₁ hs₁ => ?_)
  replace hz₁ : IsZip h₁ z TI TO .ellipsis := hz₁
  refine wpAny_bind ?_
  simp only [List.zipIdx_cons, List.zipIdx_nil, List.forIn_cons, List.forIn_nil]
  refine wpAny_bind (wpAny_bind (wpAny_onRaise ?_))
  show wpAny _ _ (Builtin.SmallTypes.nextOf (.ref i1) >>= _) _ _ _
  refine wpAny_bind (wpAny_nextOf_list_item (h1.extBut hs₁.extBut D.i1z) (hl1.extBut hs₁.extBut l1z) hx fun h₂ h1₂ hs₂ => wpAny_pure ?_)
  have hTO₂ : IsTri h₂ TO a b c := hs₂.extBut _ _ D.TOi1 (hs₁.extBut _ _ D.TOz hTO)
  refine wpAny_bind (wpAny_seqItems hTO₂ rfl ?_)
  refine wpAny_bind (wpAny_updateSeq_tri hTO₂ fun h₃ hTO₃ hs₃ => ?_)
  replace hTO₃ : IsTri h₃ TO x b c := hTO₃
  refine wpAny_bind (wpAny_letGo (wpAny_pure ?_))
  refine wpAny_bind (wpAny_bind (wpAny_onRaise ?_))
  show wpAny _ _ (Builtin.SmallTypes.nextOf (.ref i2) >>= _) _ _ _
  have up₃ : ∀ c o, c ≠ z → c ≠ TO → c ≠ i1 → s.heap.get? c = some o → h₃.get? c = some o := fun c o c1 c2 c3 e => hs₃.extBut _ _ c2 (hs₂.extBut _ _ c3 (hs₁.extBut _ _ c1 e))
  refine wpAny_bind (wpAny_nextOf_list_item (h2.at fun o e => up₃ _ o D.i2z D.TOi2.symm D.i12.symm e) (hl2.at fun o e => up₃ _ o l2z l2TO l2i1 e) hy fun h₄ h2₄ hs₄ => wpAny_pure ?_)
  have hTO₄ : IsTri h₄ TO x b c := hs₄.extBut _ _ D.TOi2 hTO₃
  refine wpAny_bind (wpAny_seqItems hTO₄ rfl ?_)
  refine wpAny_bind (wpAny_updateSeq_tri hTO₄ fun h₅ hTO₅ hs₅ => ?_)
  replace hTO₅ : IsTri h₅ TO x y c := hTO₅
  refine wpAny_bind (wpAny_letGo (wpAny_pure ?_))
  refine wpAny_bind (wpAny_bind (wpAny_onRaise ?_))
  show wpAny _ _ (Builtin.SmallTypes.nextOf (.ref i3) >>= _) _ _ _
  have up₅ : ∀ c o, c ≠ z → c ≠ TO → c ≠ i1 → c ≠ i2 → s.heap.get? c = some o → h₅.get? c = some o := fun c o c1 c2 c3 c4 e => hs₅.extBut _ _ c2 (hs₄.extBut _ _ c4 (up₃ c o c1 c2 c3 e))
  refine wpAny_bind (wpAny_nextOf_list_item (h3.at fun o e => up₅ _ o D.i3z D.TOi3.symm D.i13.symm D.i23.symm e) (hl3.at fun o e => up₅ _ o l3z l3TO l3i1 l3i2 e) hu fun h₆ h3₆ hs₆ => wpAny_pure ?_)
  have hTO₆ : IsTri h₆ TO x y c := hs₆.extBut _ _ D.TOi3 hTO₅
  refine wpAny_bind (wpAny_seqItems hTO₆ rfl ?_)
  refine wpAny_bind (wpAny_updateSeq_tri hTO₆ fun h₇ hTO₇ hs₇ => ?_)
  replace hTO₇ : IsTri h₇ TO x y u := hTO₇
  refine wpAny_bind (wpAny_letGo (wpAny_pure (wpAny_pure ?_)))
  refine wpAny_bind (wpAny_seqItems hTO₇ rfl ?_)
  refine wpAny_bind (wpAny_newTuple ?_)
  have hsz : h₇.objs.size = s.heap.objs.size := by rw [hs₇.1, hs₆.1, hs₅.1, hs₄.1, hs₃.1, hs₂.1, hs₁.1]
  have hz₇ : IsZip h₇ z TI TO .ellipsis := hs₇.extBut _ _ D.TOz.symm (hs₆.extBut _ _ D.i3z.symm (hs₅.extBut _ _ D.TOz.symm (hs₄.extBut _ _ D.i2z.symm (hs₃.extBut _ _ D.TOz.symm (hs₂.extBut _ _ D.i1z.symm hz₁)))))
  have up₇ : ∀ c o, c ≠ z → c ≠ TO → c ≠ i1 → c ≠ i2 → c ≠ i3 → s.heap.get? c = some o → h₇.get? c = some o := fun c o c1 c2 c3 c4 c5 e => hs₇.extBut _ _ c2 (hs₆.extBut _ _ c5 (up₅ c o c1 c2 c3 c4 e))
  have h1₇ : h₇.IsListIter i1 l1 (k + 1) := ((((h1₂.extBut hs₃.extBut D.TOi1.symm).extBut hs₄.extBut D.i12).extBut hs₅.extBut D.TOi1.symm).extBut hs₆.extBut D.i13).extBut hs₇.extBut D.TOi1.symm
  have h2₇ : h₇.IsListIter i2 l2 (k + 1) := ((h2₄.extBut hs₅.extBut D.TOi2.symm).extBut hs₆.extBut D.i23).extBut hs₇.extBut D.TOi2.symm
  have h3₇ : h₇.IsListIter i3 l3 (k + 1) := h3₆.extBut hs₇.extBut D.TOi3.symm
  have hzlt : z < h₇.objs.size := Heap.lt_size hz₇
  show wpAny _ _ (Builtin.SmallTypes.ownedTupleHandOut (.ref z) (.ref h₇.objs.size) >>= _) _ _ _
  refine wpAny_bind ?_
  unfold Builtin.SmallTypes.ownedTupleHandOut
  have hz₈ : IsZip (h₇.push { cls := .type "tuple", data := .seq #[x, y, u] }) z TI TO .ellipsis := Heap.get?_push_of_some _ hz₇
  refine wpAny_bind (wpAny_setField_rec hz₈ (by simp) fun h₉ hz₉ hs₉ => ?_)
  replace hz₉ : IsZip h₉ z TI TO (rawInt h₇.objs.size) := hz₉
  refine wpAny_setField_rec hz₉ (by simp) fun h₈ hz₈ hs₈ => ?_
  replace hz₈ : IsZip h₈ z TI TO (rawInt h₇.objs.size) := hz₈
  have up : ∀ c o, c ≠ z → h₇.get? c = some o → h₈.get? c = some o := fun c o c1 e => hs₈.extBut _ _ c1 (hs₉.extBut _ _ c1 (Heap.get?_push_of_some _ e))
  have hT₈ : IsTri h₈ h₇.objs.size x y u := hs₈.extBut _ _ (Nat.ne_of_gt hzlt) (hs₉.extBut _ _ (Nat.ne_of_gt hzlt) (Heap.get?_push_size _ rfl))
  have hz8 : h₈.objs.size = h₇.objs.size + 1 := by rw [hs₈.1, hs₉.1, Heap.size_push]
  rw [hsz] at hz₈ hT₈ hz8
  refine wpAny_pure ⟨_, rfl, ?_⟩
  show Q (.ref h₇.objs.size) _
  rw [hsz]
  exact hQ h₈ hz₈ (up _ _ D.TOz hTO₇) (h1₇.at fun o e => up _ o D.i1z e) (h2₇.at fun o e => up _ o D.i2z e) (h3₇.at fun o e => up _ o D.i3z e) hT₈ hz8 fun c o c1 c2 c3 c4 c5 e => up c o c1 (up₇ c o c1 c2 c3 c4 c5 e)

theorem zip3_next_end {z TI TO i1 i2 i3 l1 l2 l3 : Addr} {k : Nat} {xs : Array Value} {Q : Fin → Shared → Prop} (hh : A.handled = none) (D : ZA z TI TO i1 i2 i3 l1 l2 l3)
    (hz : IsZip s.heap z TI TO .none) (hTI : IsTri s.heap TI (.ref i1) (.ref i2) (.ref i3))
    (h1 : s.heap.IsListIter i1 l1 k) (hl1 : s.heap.IsList l1 xs) (hend : xs[k]? = none)
    (hE : ∀ h' e, (∀ c o, c ≠ z → c ≠ i1 → s.heap.get? c = some o → h'.get? c = some o) → (∃ o, h'.get? e = some o ∧ o.cls = .type "StopIteration") → E (.ref e) { s with heap := h' }) :
    wpAny (model prog w) A (Builtin.«zip.__next__» ⟨[.ref z], []⟩) Q E s := by
  obtain ⟨l1z, l1TO, l1i1, l1i2, l1i3⟩ := D.far l1 (by simp)
  show wpAny _ _ (field (.ref z) 2 >>= _) _ _ _
  refine wpAny_bind (wpAny_field hz rfl (x := .bool false) rfl ?_)
  show wpAny _ _ (field (.ref z) 3 >>= _) _ _ _
  refine wpAny_bind (wpAny_field hz rfl (x := .ref TI) rfl ?_)
  refine wpAny_bind (wpAny_seqItems hTI rfl ?_)
  show wpAny _ _ (Builtin.SmallTypes.ownedTupleIsFree (.ref z) >>= _) _ _ _
  refine wpAny_bind ?_
  unfold Builtin.SmallTypes.ownedTupleIsFree
  refine wpAny_bind (wpAny_field hz rfl (x := .none) rfl (wpAny_pure ?_))
  simp only [if_true]
  refine wpAny_bind (wpAny_rule ?_)
  refine wpAny_bind (wpAny_field hz rfl (x := .ref TO) rfl ?_)
  refine wpAny_bind (wpAny_setField_rec hz (by simp) fun h₁ hz₁ hs₁ => ?_)
  replace hz₁ : IsZip h₁ z TI TO .ellipsis := hz₁
  refine wpAny_bind ?_
  simp only [List.zipIdx_cons, List.zipIdx_nil, List.forIn_cons, List.forIn_nil]
  refine wpAny_bind (wpAny_bind (wpAny_onRaise ?_))
  show wpAny _ _ (Builtin.SmallTypes.nextOf (.ref i1) >>= _) _ _ _
  refine wpAny_bind (wpAny_nextOf_list_end hh (h1.extBut hs₁.extBut D.i1z) (hl1.extBut hs₁.extBut l1z) hend fun h₂ e hs₂ he => ?_)
  obtain ⟨oe, hoe, hce⟩ := he
  have hz₂ : IsZip h₂ z TI TO .ellipsis := hs₂ _ _ D.i1z.symm hz₁
  have hez : e ≠ z := fun x => by subst x; rw [hz₂] at hoe; cases hoe; simp at hce
  refine wpAny_setField_rec hz₂ (by simp) fun h₃ _ hs₃ => hE h₃ e (fun c o c1 c3 x => hs₃.extBut _ _ c1 (hs₂ _ _ c3 (hs₁.extBut _ _ c1 x))) ⟨oe, hs₃.extBut _ _ hez hoe, hce⟩

theorem next_zip3_item {z TI TO i1 i2 i3 l1 l2 l3 : Addr} {k : Nat} {xs ys zs : Array Value} {x y u a b c : Value} {Q : Option Value → Shared → Prop} (D : ZA z TI TO i1 i2 i3 l1 l2 l3)
    (hz : IsZip s.heap z TI TO .none) (hTI : IsTri s.heap TI (.ref i1) (.ref i2) (.ref i3)) (hTO : IsTri s.heap TO a b c)
    (h1 : s.heap.IsListIter i1 l1 k) (h2 : s.heap.IsListIter i2 l2 k) (h3 : s.heap.IsListIter i3 l3 k) (hl1 : s.heap.IsList l1 xs) (hl2 : s.heap.IsList l2 ys) (hl3 : s.heap.IsList l3 zs) (hx : xs[k]? = some x) (hy : ys[k]? = some y) (hu : zs[k]? = some u)
    (hQ : ∀ h', IsZip h' z TI TO (rawInt s.heap.objs.size) → IsTri h' TO x y u → h'.IsListIter i1 l1 (k + 1) → h'.IsListIter i2 l2 (k + 1) → h'.IsListIter i3 l3 (k + 1) → IsTri h' s.heap.objs.size x y u → h'.objs.size = s.heap.objs.size + 1 →
      (∀ c o, c ≠ z → c ≠ TO → c ≠ i1 → c ≠ i2 → c ≠ i3 → s.heap.get? c = some o → h'.get? c = some o) → Q (some (.ref s.heap.objs.size)) { s with heap := h' }) :
    wpAny (model prog w) A (pyNext (.ref z)) Q E s := by
  have hT : s.TypeIs (.ref z) "zip" := ⟨_, hz, rfl⟩
  unfold pyNext
  exact wpAny_bind (wpAny_attempt (wpAny_callSpecial?_slot (name := Str.ofString "__next__") hT PySem.F.slot_zip_next
    (wpAny_call_entry PySem.F.slot_zip_next hT PySem.F.entry_zip_next
      (zip3_next_item D hz hTI hTO h1 h2 h3 hl1 hl2 hl3 hx hy hu fun h' a1 a2 a3 a4 a5 a6 a7 a8 => wpAny_pure (hQ h' a1 a2 a3 a4 a5 a6 a7 a8)) (PySem.F.args_zip_next_1 _))))

theorem next_zip3_end {z TI TO i1 i2 i3 l1 l2 l3 : Addr} {k : Nat} {xs : Array Value} {Q : Option Value → Shared → Prop} (hh : A.handled = none) (D : ZA z TI TO i1 i2 i3 l1 l2 l3)
    (hz : IsZip s.heap z TI TO .none) (hTI : IsTri s.heap TI (.ref i1) (.ref i2) (.ref i3))
    (h1 : s.heap.IsListIter i1 l1 k) (hl1 : s.heap.IsList l1 xs) (hend : xs[k]? = none)
    (hQ : ∀ h', (∀ c o, c ≠ z → c ≠ i1 → s.heap.get? c = some o → h'.get? c = some o) → Q none { s with heap := h' }) : wpAny (model prog w) A (pyNext (.ref z)) Q E s := by
  have hT : s.TypeIs (.ref z) "zip" := ⟨_, hz, rfl⟩
  unfold pyNext
  refine wpAny_bind (wpAny_attempt (wpAny_callSpecial?_slot (name := Str.ofString "__next__") hT PySem.F.slot_zip_next
    (wpAny_call_entry PySem.F.slot_zip_next hT PySem.F.entry_zip_next (zip3_next_end hh D hz hTI h1 hl1 hend fun h' e hk he => ?_) (PySem.F.args_zip_next_1 _))))
  obtain ⟨o, ho, hc⟩ := he
  refine wpAny_bind (wpAny_isInstance (T := "StopIteration") (b := true) ⟨o, ho, hc⟩ isSubtype_stop ?_)
  exact wpAny_pure (hQ _ hk)
end

abbrev zH1 (h : Heap) (l1 : Addr) : Heap := h.push { cls := .type "list_iterator", data := .fields #[.ref l1, .int 0 0] }
abbrev zH2 (h : Heap) (l1 l2 : Addr) : Heap := (zH1 h l1).push { cls := .type "list_iterator", data := .fields #[.ref l2, .int 0 0] }
abbrev zH3 (h : Heap) (l1 l2 l3 : Addr) : Heap := (zH2 h l1 l2).push { cls := .type "list_iterator", data := .fields #[.ref l3, .int 0 0] }
abbrev zH4 (h : Heap) (l1 l2 l3 : Addr) : Heap := (zH3 h l1 l2 l3).push { cls := .type "tuple", data := .seq #[.ref h.objs.size, .ref (zH1 h l1).objs.size, .ref (zH2 h l1 l2).objs.size] }
abbrev zH5 (h : Heap) (l1 l2 l3 : Addr) : Heap := (zH4 h l1 l2 l3).push { cls := .type "tuple", data := .seq #[.none, .none, .none] }
abbrev zH6 (h : Heap) (l1 l2 l3 : Addr) : Heap := (zH5 h l1 l2 l3).push { cls := .type "zip", data := .fields #[.none, .bool false, .bool false, .ref (zH3 h l1 l2 l3).objs.size, .ref (zH4 h l1 l2 l3).objs.size] }

set_option maxRecDepth 20000 in
set_option maxHeartbeats 2000000 in
theorem meets_zip3_new (l1 l2 l3 : Addr) (xs ys zs : Array Value) :
    Meets (Builtin.«zip.__new__» ⟨[.type "zip", .ref l1, .ref l2, .ref l3], []⟩) (fun _ R s => s.heap.IsList l1 xs ∧ s.heap.IsList l2 ys ∧ s.heap.IsList l3 zs ∧
      R (.ok (.ret (.ref (zH5 s.heap l1 l2 l3).objs.size))) { s with heap := zH6 s.heap l1 l2 l3 }) :=
  .of_wp fun prog w A R s h => by
    obtain ⟨hp, g, d, tk, os⟩ := s; obtain ⟨hl1, hl2, hl3, h⟩ := h
    have hsub := sub_zip
    have hL1 : Heap.IsList (Shared.heap ⟨hp, g, d, tk, os⟩) l1 xs := hl1
    have hL2 : Heap.IsList (Shared.heap ⟨hp.push { cls := .type "list_iterator", data := .fields #[.ref l1, .int 0 0] }, g, d, tk, os⟩) l2 ys := Heap.IsList.push hl2 _
    have hL3 : Heap.IsList (Shared.heap ⟨(hp.push { cls := .type "list_iterator", data := .fields #[.ref l1, .int 0 0] }).push { cls := .type "list_iterator", data := .fields #[.ref l2, .int 0 0] }, g, d, tk, os⟩) l3 zs := Heap.IsList.push (Heap.IsList.push hl3 _) _
    wp_walk using wpAny_pyIter_list hL1, wpAny_pyIter_list hL2, wpAny_pyIter_list hL3
    exact ⟨_, rfl, h⟩

section
variable {prog : Program} {w : World} {A : Around} {E : Value → Shared → Prop} {s : Shared}

theorem call_zip_3 {l1 l2 l3 : Addr} {xs ys zs : Array Value} {Q : Value → Shared → Prop} (hl1 : s.heap.IsList l1 xs) (hl2 : s.heap.IsList l2 ys) (hl3 : s.heap.IsList l3 zs)
    (h : ∀ h', IsZip h' (s.heap.objs.size + 5) (s.heap.objs.size + 3) (s.heap.objs.size + 4) .none → IsTri h' (s.heap.objs.size + 3) (.ref s.heap.objs.size) (.ref (s.heap.objs.size + 1)) (.ref (s.heap.objs.size + 2)) →
      IsTri h' (s.heap.objs.size + 4) .none .none .none → h'.IsListIter s.heap.objs.size l1 0 → h'.IsListIter (s.heap.objs.size + 1) l2 0 → h'.IsListIter (s.heap.objs.size + 2) l3 0 → h'.objs.size = s.heap.objs.size + 6 →
      (∀ c o, s.heap.get? c = some o → h'.get? c = some o) → Q (.ref (s.heap.objs.size + 5)) { s with heap := h' }) :
    wpAny (model prog w) A (call (.type "zip") [.ref l1, .ref l2, .ref l3]) Q E s := by
  refine callType_new PySem.F.called_zip (by decide) (typeCall_zip_3 _ _ _) (newCall_zip_3 _ _ _) (fun obj => args_object_init_4 obj _ _ _) PySem.F.entry_zip_new
    (meets_zip3_new l1 l2 l3 xs ys zs) ⟨hl1, hl2, hl3, ?_⟩
  have z1 : (zH1 s.heap l1).objs.size = s.heap.objs.size + 1 := Heap.size_push ..
  have z2 : (zH2 s.heap l1 l2).objs.size = s.heap.objs.size + 2 := by rw [Heap.size_push, z1]
  have z3 : (zH3 s.heap l1 l2 l3).objs.size = s.heap.objs.size + 3 := by rw [Heap.size_push, z2]
  have z4 : (zH4 s.heap l1 l2 l3).objs.size = s.heap.objs.size + 4 := by rw [Heap.size_push, z3]
  have z5 : (zH5 s.heap l1 l2 l3).objs.size = s.heap.objs.size + 5 := by rw [Heap.size_push, z4]
  have z6 : (zH6 s.heap l1 l2 l3).objs.size = s.heap.objs.size + 6 := by rw [Heap.size_push, z5]
  have g6 : (zH6 s.heap l1 l2 l3).get? (zH5 s.heap l1 l2 l3).objs.size = some _ := Heap.get?_push_size _ rfl
  have g5 : (zH6 s.heap l1 l2 l3).get? (zH4 s.heap l1 l2 l3).objs.size = some _ := Heap.get?_push_of_some _ (Heap.get?_push_size _ rfl)
  have g4 : (zH6 s.heap l1 l2 l3).get? (zH3 s.heap l1 l2 l3).objs.size = some _ := Heap.get?_push_of_some _ (Heap.get?_push_of_some _ (Heap.get?_push_size _ rfl))
  have g3 : (zH6 s.heap l1 l2 l3).get? (zH2 s.heap l1 l2).objs.size = some _ := Heap.get?_push_of_some _ (Heap.get?_push_of_some _ (Heap.get?_push_of_some _ (Heap.get?_push_size _ rfl)))
  have g2 : (zH6 s.heap l1 l2 l3).get? (zH1 s.heap l1).objs.size = some _ := Heap.get?_push_of_some _ (Heap.get?_push_of_some _ (Heap.get?_push_of_some _ (Heap.get?_push_of_some _ (Heap.get?_push_size _ rfl))))
  have g1 : (zH6 s.heap l1 l2 l3).get? s.heap.objs.size = some _ := Heap.get?_push_of_some _ (Heap.get?_push_of_some _ (Heap.get?_push_of_some _ (Heap.get?_push_of_some _ (Heap.get?_push_of_some _ (Heap.get?_push_size _ rfl)))))
  show _ ∧ _
  rw [z3, z4, z5] at g6
  rw [z1, z2, z3] at g4
  rw [z4] at g5
  rw [z2] at g3
  rw [z1] at g2
  rw [z5]
  exact ⟨⟨_, g6, rfl⟩, h _ g6 g4 g5 ⟨_, g1, rfl, rfl⟩ ⟨_, g2, rfl, rfl⟩ ⟨_, g3, rfl, rfl⟩ z6 fun c o x =>
    Heap.get?_push_of_some _ (Heap.get?_push_of_some _ (Heap.get?_push_of_some _ (Heap.get?_push_of_some _ (Heap.get?_push_of_some _ (Heap.get?_push_of_some _ x)))))⟩

theorem walksT_zip3 (hh : A.handled = none) (z TI TO i1 i2 i3 l1 l2 l3 : Addr) (D : ZA z TI TO i1 i2 i3 l1 l2 l3) (xs ys zs : Array Value) (e2 : ys.size = xs.size) (e3 : zs.size = xs.size) :
    WalksT prog w A z [z, TI, TO, i1, i2, i3, l1, l2, l3] [z, TO, i1, i2, i3] xs.size
      (fun i vals => ∃ x y u, xs[i]? = some x ∧ ys[i]? = some y ∧ zs[i]? = some u ∧ vals = #[x, y, u])
      (fun i h => IsZip h z TI TO .none ∧ IsTri h TI (.ref i1) (.ref i2) (.ref i3) ∧ (∃ a b c, IsTri h TO a b c) ∧ (h.IsListIter i1 l1 i ∧ h.IsListIter i2 l2 i ∧ h.IsListIter i3 l3 i) ∧ h.IsList l1 xs ∧ h.IsList l2 ys ∧ h.IsList l3 zs)
      (fun i T h => (IsZip h z TI TO (rawInt T) ∧ IsTri h TI (.ref i1) (.ref i2) (.ref i3) ∧ (∃ a b c, IsTri h TO a b c) ∧ (h.IsListIter i1 l1 (i + 1) ∧ h.IsListIter i2 l2 (i + 1) ∧ h.IsListIter i3 l3 (i + 1)) ∧ h.IsList l1 xs ∧ h.IsList l2 ys ∧ h.IsList l3 zs) ∧
        T ∉ [z, TO, i1, i2, i3]) where
  sub := fun c hc => by simp at hc ⊢; rcases hc with rfl | rfl | rfl | rfl | rfl <;> simp
  frame := fun i h h' hst hk => by
    obtain ⟨hz, hTI, ⟨a, b, c, hTO⟩, ⟨h1, h2, h3⟩, hl1, hl2, hl3⟩ := hst
    exact ⟨hk z (by simp) _ hz, hk TI (by simp) _ hTI, ⟨a, b, c, hk TO (by simp) _ hTO⟩, ⟨h1.at fun o e => hk i1 (by simp) o e, h2.at fun o e => hk i2 (by simp) o e, h3.at fun o e => hk i3 (by simp) o e⟩,
      hl1.at fun o e => hk l1 (by simp) o e, hl2.at fun o e => hk l2 (by simp) o e, hl3.at fun o e => hk l3 (by simp) o e⟩
  item := fun i s Q E hi hst hQ => by
    obtain ⟨hz, hTI, ⟨a, b, c, hTO⟩, ⟨h1, h2, h3⟩, hl1, hl2, hl3⟩ := hst
    obtain ⟨l1z, l1TO, l1i1, l1i2, l1i3⟩ := D.far l1 (by simp)
    obtain ⟨l2z, l2TO, l2i1, l2i2, l2i3⟩ := D.far l2 (by simp)
    obtain ⟨l3z, l3TO, l3i1, l3i2, l3i3⟩ := D.far l3 (by simp)
    obtain ⟨TIz, TITO, TIi1, TIi2, TIi3⟩ := D.far TI (by simp)
    have hiy : i < ys.size := by rw [e2]; exact hi
    have hiz : i < zs.size := by rw [e3]; exact hi
    refine next_zip3_item D hz hTI hTO h1 h2 h3 hl1 hl2 hl3 (Array.getElem?_eq_getElem hi) (Array.getElem?_eq_getElem hiy) (Array.getElem?_eq_getElem hiz) fun h' a1 a2 a3 a4 a5 a6 a7 hk => ?_
    have lt : ∀ {c o}, s.heap.get? c = some o → s.heap.objs.size ≠ c := fun e => Nat.ne_of_gt (Heap.lt_size e)
    have n1 : s.heap.objs.size ≠ i1 := by obtain ⟨_, e, _⟩ := h1; exact lt e
    have n2 : s.heap.objs.size ≠ i2 := by obtain ⟨_, e, _⟩ := h2; exact lt e
    have n3 : s.heap.objs.size ≠ i3 := by obtain ⟨_, e, _⟩ := h3; exact lt e
    refine hQ s.heap.objs.size #[xs[i], ys[i], zs[i]] h' s.toks ⟨_, _, _, Array.getElem?_eq_getElem hi, Array.getElem?_eq_getElem hiy, Array.getElem?_eq_getElem hiz, rfl⟩ (Nat.le_refl _) ⟨_, a6, rfl, _, rfl⟩
      ⟨⟨a1, hk _ _ TIz TITO TIi1 TIi2 TIi3 hTI, ⟨_, _, _, a2⟩, ⟨a3, a4, a5⟩, hl1.at fun o e => hk _ o l1z l1TO l1i1 l1i2 l1i3 e, hl2.at fun o e => hk _ o l2z l2TO l2i1 l2i2 l2i3 e, hl3.at fun o e => hk _ o l3z l3TO l3i1 l3i2 l3i3 e⟩, ?_⟩
      fun c o hc e => hk c o (fun x => hc (by simp [x])) (fun x => hc (by simp [x])) (fun x => hc (by simp [x])) (fun x => hc (by simp [x])) (fun x => hc (by simp [x])) e
    intro hm
    simp only [List.mem_cons, List.not_mem_nil, or_false] at hm
    rcases hm with q | q | q | q | q
    · exact lt hz q
    · exact lt hTO q
    · exact n1 q
    · exact n2 q
    · exact n3 q
  go := fun elts k pos i T s Q E hm hQ => by
    obtain ⟨⟨hz, hTI, ⟨a, b, c, hTO⟩, ⟨h1, h2, h3⟩, hl1, hl2, hl3⟩, _⟩ := hm
    refine wpAny_letOwnedTupleGo_zip hz fun h' hz' hs' => hQ h' ⟨hz', hs'.extBut _ _ (D.far TI (by simp)).1 hTI, ⟨a, b, c, hs'.extBut _ _ D.TOz hTO⟩, ⟨h1.extBut hs'.extBut D.i1z, h2.extBut hs'.extBut D.i2z, h3.extBut hs'.extBut D.i3z⟩,
      hl1.extBut hs'.extBut (D.far l1 (by simp)).1, hl2.extBut hs'.extBut (D.far l2 (by simp)).1, hl3.extBut hs'.extBut (D.far l3 (by simp)).1⟩ fun c o hc e => hs'.extBut _ _ (fun x => hc (by simp [x])) e
  apart := fun i T h hm hT => hm.2 hT
  done := fun s Q E hst hQ => by
    obtain ⟨hz, hTI, ⟨a, b, c, hTO⟩, ⟨h1, h2, h3⟩, hl1, hl2, hl3⟩ := hst
    exact next_zip3_end hh D hz hTI h1 hl1 (Array.getElem?_eq_none (Nat.le_refl _)) fun h' hk => hQ h' s.toks fun c o hc e => hk c o (fun x => hc (by simp [x])) (fun x => hc (by simp [x])) e
  self := fun i s Q E hst hQ => wpAny_pyIter_zip hst.1 hQ

theorem nat_ne {a b : Nat} (h : a ≠ b) : (a : Addr) ≠ b := h
theorem far_new {n c l1 l2 l3 : Nat} (h1 : l1 < n) (h2 : l2 < n) (h3 : l3 < n) (hc : c = n + 3 ∨ c = l1 ∨ c = l2 ∨ c = l3) : c ≠ n + 5 ∧ c ≠ n + 4 ∧ c ≠ n ∧ c ≠ n + 1 ∧ c ≠ n + 2 := by omega
theorem za_new {n l1 l2 l3 : Nat} (h1 : l1 < n) (h2 : l2 < n) (h3 : l3 < n) : ZA (n + 5) (n + 3) (n + 4) n (n + 1) (n + 2) l1 l2 l3 where
  TOz := nat_ne (a := n + 4) (b := n + 5) (by omega)
  i1z := nat_ne (a := n) (b := n + 5) (by omega)
  i2z := nat_ne (a := n + 1) (b := n + 5) (by omega)
  i3z := nat_ne (a := n + 2) (b := n + 5) (by omega)
  TOi1 := nat_ne (a := n + 4) (b := n) (by omega)
  TOi2 := nat_ne (a := n + 4) (b := n + 1) (by omega)
  TOi3 := nat_ne (a := n + 4) (b := n + 2) (by omega)
  i12 := nat_ne (a := n) (b := n + 1) (by omega)
  i13 := nat_ne (a := n) (b := n + 2) (by omega)
  i23 := nat_ne (a := n + 1) (b := n + 2) (by omega)
  far := fun _ hc => far_new h1 h2 h3 hc

theorem zip3_it {l1 l2 l3 : Addr} {xs ys zs : Array Value} {Q : Value → Shared → Prop} (hh : A.handled = none) (hl1 : s.heap.IsList l1 xs) (hl2 : s.heap.IsList l2 ys) (hl3 : s.heap.IsList l3 zs) (e2 : ys.size = xs.size) (e3 : zs.size = xs.size)
    (hQ : ∀ h' z fp wr St Mid, Kp s.heap h' → s.heap.objs.size ≤ z → WalksT prog w A z fp wr xs.size (fun i vals => ∃ x y u, xs[i]? = some x ∧ ys[i]? = some y ∧ zs[i]? = some u ∧ vals = #[x, y, u]) St Mid → St 0 h' →
      (∀ b ∈ fp, b < h'.objs.size) → (∀ b ∈ wr, s.heap.objs.size ≤ b) → Q (.ref z) { s with heap := h' }) :
    wpAny (model prog w) A (call (.type "zip") [.ref l1, .ref l2, .ref l3]) (fun x s₁ => wpAny (model prog w) A (pyIter x) Q E s₁) E s := by
  refine call_zip_3 hl1 hl2 hl3 fun h' hz hTI hTO h1 h2 h3 hsz hk => wpAny_pyIter_zip hz ?_
  have lt1 : l1 < s.heap.objs.size := by obtain ⟨o, e, _⟩ := hl1; exact Heap.lt_size e
  have lt2 : l2 < s.heap.objs.size := by obtain ⟨o, e, _⟩ := hl2; exact Heap.lt_size e
  have lt3 : l3 < s.heap.objs.size := by obtain ⟨o, e, _⟩ := hl3; exact Heap.lt_size e
  refine hQ h' _ _ _ _ _ hk (Nat.le_add_right _ _) (walksT_zip3 hh _ _ _ _ _ _ _ _ _ (za_new lt1 lt2 lt3) xs ys zs e2 e3) ⟨hz, hTI, ⟨_, _, _, hTO⟩, ⟨h1, h2, h3⟩, hl1.at fun o e => hk _ o e, hl2.at fun o e => hk _ o e, hl3.at fun o e => hk _ o e⟩ ?_ ?_
  · intro b hb
    rw [hsz]
    simp only [List.mem_cons, List.not_mem_nil, or_false] at hb
    rcases hb with rfl | rfl | rfl | rfl | rfl | rfl | rfl | rfl | rfl
    · exact Nat.add_lt_add_left (by decide) _
    · exact Nat.add_lt_add_left (by decide) _
    · exact Nat.add_lt_add_left (by decide) _
    · exact Nat.lt_add_of_pos_right (by decide)
    · exact Nat.add_lt_add_left (by decide) _
    · exact Nat.add_lt_add_left (by decide) _
    · exact Nat.lt_of_lt_of_le lt1 (Nat.le_add_right _ _)
    · exact Nat.lt_of_lt_of_le lt2 (Nat.le_add_right _ _)
    · exact Nat.lt_of_lt_of_le lt3 (Nat.le_add_right _ _)
  · intro b hb
    simp only [List.mem_cons, List.not_mem_nil, or_false] at hb
    rcases hb with rfl | rfl | rfl | rfl | rfl
    · exact Nat.le_add_right _ _
    · exact Nat.le_add_right _ _
    · exact Nat.le_refl _
    · exact Nat.le_add_right _ _
    · exact Nat.le_add_right _ _
end
end Mine
end

section
open PySem PySem.W PyProof.Rows PySem.Calls PySem.SeqAt
namespace Mine

section
variable {prog : Program} {w : World} {A : Around} {E : Value → Shared → Prop} {s : Shared}

theorem strs_at {l1 l2 : List (Str × Tok)} (he : l1.map (·.1) = l2.map (·.1)) {B : Around} (j : Nat) (h1 : j < (strValues l1).toArray.size) (h2 : j < (strValues l2).toArray.size) :
    EqAt B s (strValues l1).toArray[j] (strValues l2).toArray[j] true := by
  have i1 : j < l1.length := by simpa [strValues] using h1
  have i2 : j < l2.length := by simpa [strValues] using h2
  have e1 : (strValues l1).toArray[j] = .str l1[j].1 l1[j].2 := by simp [strValues]
  have e2 : (strValues l2).toArray[j] = .str l2[j].1 l2[j].2 := by simp [strValues]
  have e3 : l1[j].1 = l2[j].1 := by
    have := congrArg (fun z => z[j]?) he
    simpa [List.getElem?_eq_getElem i1, List.getElem?_eq_getElem i2] using this
  rw [e1, e2]
  have := EqAt.str_str (A := B) (s := s) l1[j].1 l1[j].2 l2[j].1 l2[j].2
  rw [e3, beq_self_eq_true] at this
  rw [e3]
  exact this

theorem ne_strs {a b : Addr} {l1 l2 : List (Str × Tok)} {Q : Value → Shared → Prop} (ha : s.heap.IsList a (strValues l1).toArray) (hb : s.heap.IsList b (strValues l2).toArray) (he : l1.map (·.1) = l2.map (·.1)) (hu : A.units < cLine)
    (h : Q (.bool false) s) : wpAny (model prog w) A (compareOp .NotEq (.ref a) (.ref b)) Q E s := by
  have hlen : l1.length = l2.length := by simpa using congrArg List.length he
  have := RcNeAt.lists (A := A) (e := fun _ => true) ha hb (by simpa [strValues] using hlen) hu (fun j h1 h2 => strs_at he j h1 h2)
  refine this prog w E Q ?_
  have e : (!(List.range (strValues l1).toArray.size).all fun _ => true) = false := by simp
  rw [e]; exact h

theorem eq_strs {a b : Addr} {l1 l2 : List (Str × Tok)} {Q : Value → Shared → Prop} (ha : s.heap.IsList a (strValues l1).toArray) (hb : s.heap.IsList b (strValues l2).toArray) (he : l1.map (·.1) = l2.map (·.1)) (hu : A.units < cLine)
    (h : Q (.bool true) s) : wpAny (model prog w) A (compareOp .Eq (.ref a) (.ref b)) Q E s := by
  have hlen : l1.length = l2.length := by simpa using congrArg List.length he
  refine eq_listAt (e := fun _ => true) ha hb (by simpa [strValues] using hlen) hu (fun j h1 h2 => strs_at he j h1 h2) ?_
  have e : ((List.range (strValues l1).toArray.size).all fun _ => true) = true := by simp
  rw [e]; exact h

theorem ne_pairs {a b : Addr} {x y : Int} {t1 t2 t3 t4 : Tok} {Q : Value → Shared → Prop} (ha : s.heap.IsTuple a #[.int x t1, .int y t2]) (hb : s.heap.IsTuple b #[.int x t3, .int y t4]) (hu : A.units < cLine)
    (h : Q (.bool false) s) : wpAny (model prog w) A (compareOp .NotEq (.ref a) (.ref b)) Q E s := by
  have := RcNeAt.tuples (A := A) (e := fun _ => true) ha hb hu (fun j h1 h2 => by
    have hj : j = 0 ∨ j = 1 := by simp at h1; omega
    rcases hj with rfl | rfl
    · have := EqAt.int_int (A := A.in1) (s := s) x t1 x t3
      rw [beq_self_eq_true] at this; exact this
    · have := EqAt.int_int (A := A.in1) (s := s) y t2 y t4
      rw [beq_self_eq_true] at this; exact this)
  exact this prog w E Q h

theorem add_ints {l b : Addr} {vs ws : List Value} {Q : Value → Shared → Prop} (hl : s.heap.IsList l vs.toArray) (hb : s.heap.IsList b ws.toArray)
    (h : ∀ h' a, Kp s.heap h' → s.heap.objs.size ≤ a → h'.IsList a (vs ++ ws).toArray → Q (.ref a) { s with heap := h' })
    (hsz : vs.length + ws.length ≤ sizeLine) :
    wpAny (model prog w) A (binaryOp .Add (.ref l) (.ref b)) Q E s := by
  obtain ⟨⟨cls, dd, data, sl⟩, ho, hc, n, hd⟩ := id hl
  obtain ⟨⟨cls2, dd2, data2, sl2⟩, ho2, hc2, n2, hd2⟩ := id hb
  simp only at hc hd hc2 hd2
  subst hc hd hc2 hd2
  have e : vs.toArray ++ ws.toArray = (vs ++ ws).toArray := by simp
  refine concat_meets ⟨_, ho, rfl⟩ ⟨_, ho2, rfl⟩ noFill_list_add seq_list_add PySem.F.slot_list_add PySem.F.entry_list_add (PySem.F.args_list_add_2 _ _) (list_addW l b vs.toArray ws.toArray n n2 dd dd2 sl sl2 (by simpa using hsz)) ⟨ho, ho2, ?_⟩
  rw [e]
  exact h _ _ (fun b o e => Heap.get?_push_of_some _ e) (Nat.le_refl _) ⟨_, Heap.get?_push_size _ rfl, rfl, _, rfl⟩

theorem sliceK {env : Env} {value lo st : Expr} {p pos : Pos} {Q : Value → Shared → Prop}
    (h : wpAny (model prog w) A (eval value env) (fun o s₁ => wpAny (model prog w) A (eval lo env) (fun i s₂ => wpAny (model prog w) A (eval st env) (fun k s₃ =>
      ∃ l items i' ti k' tk', o = .ref l ∧ i = .int i' ti ∧ k = .int k' tk' ∧ k' ≠ 0 ∧ s₃.heap.IsList l items ∧ items.size ≤ sizeLine ∧
        ∀ h' a, Kp s₃.heap h' → s₃.heap.objs.size ≤ a → h'.IsList a (slicePick items (some i') none (some k')) → Q (.ref a) { s₃ with heap := h' }) E s₂) E s₁) E s)
    (ht : ∀ o r, letTemporaryGo value o r = pure () := by intro _ _; rfl) :
    wpAny (model prog w) A (eval (.Subscript value (.Slice (some lo) none (some st) p) pos) env) Q E s := by
  refine wpAny_Subscript_Slice_step list_getitem_lookup (wpAny_mono h (fun o s₁ h₁ => wpAny_Slice (wpAny_mono h₁ (fun i s₂ h₂ => wpAny_evalPart_none (wpAny_mono h₂ (fun k s₃ h₃ => ?_) fun _ _ x => x)) fun _ _ x => x)) fun _ _ x => x) ht
  obtain ⟨l, items, i', ti, k', tk', rfl, rfl, rfl, hk, hl, hz, hq⟩ := h₃
  refine ⟨Heap.IsList.typeIs (s := { s₃ with heap := s₃.heap.push { cls := .type "slice", data := .fields #[.int i' ti, .none, .int k' tk'] } }) (hl.push _), ?_⟩
  refine wpAny_getItem_list_slice (hl.push _) (Heap.IsSliceOf.new ..) (.int _ _) .none (.int _ _) (fun e => hk (Option.some.inj e)) ?_ hz
  refine hq _ _ (fun b o e => Heap.get?_push_of_some _ (Heap.get?_push_of_some _ e)) ?_ ⟨_, Heap.get?_push_size _ rfl, rfl, _, rfl⟩
  rw [Heap.size_push]; exact Nat.le_succ _

theorem sliceU {env : Env} {value hi : Expr} {p pos : Pos} {Q : Value → Shared → Prop}
    (h : wpAny (model prog w) A (eval value env) (fun o s₁ => wpAny (model prog w) A (eval hi env) (fun i s₃ =>
      ∃ l items i' ti, o = .ref l ∧ i = .int i' ti ∧ s₃.heap.IsList l items ∧ items.size ≤ sizeLine ∧
        ∀ h' a, Kp s₃.heap h' → s₃.heap.objs.size ≤ a → h'.IsList a (slicePick items none (some i') none) → Q (.ref a) { s₃ with heap := h' }) E s₁) E s)
    (ht : ∀ o r, letTemporaryGo value o r = pure () := by intro _ _; rfl) :
    wpAny (model prog w) A (eval (.Subscript value (.Slice none (some hi) none p) pos) env) Q E s := by
  refine wpAny_Subscript_Slice list_getitem_lookup (wpAny_mono h (fun o s₁ h₁ => wpAny_Slice (wpAny_evalPart_none (wpAny_mono h₁ (fun i s₃ h₃ => wpAny_evalPart_none ?_) fun _ _ x => x))) fun _ _ x => x) ht
  obtain ⟨l, items, i', ti, rfl, rfl, hl, hz, hq⟩ := h₃
  refine ⟨Heap.IsList.typeIs (s := { s₃ with heap := s₃.heap.push { cls := .type "slice", data := .fields #[.none, .int i' ti, .none] } }) (hl.push _), ?_⟩
  refine wpAny_getItem_list_slice (hl.push _) (Heap.IsSliceOf.new ..) .none (.int _ _) .none nofun ?_ hz
  refine hq _ _ (fun b o e => Heap.get?_push_of_some _ (Heap.get?_push_of_some _ e)) ?_ ⟨_, Heap.get?_push_size _ rfl, rfl, _, rfl⟩
  rw [Heap.size_push]; exact Nat.le_succ _

theorem itS {env : Env} {x : Str} {k : Nat} {p pos : Pos} {rest : List Expr} {Q : List Value → Shared → Prop}
    (h : wpAny (model prog w) A (spliced (backTo pos (starEach rest env))) (fun vs s₂ => Q (.str x s.toks :: vs) s₂) E { s with toks := s.toks + 1 }) :
    wpAny (model prog w) A (spliced (backTo pos (starEach (.Constant (.str x) k p :: rest) env))) Q E s := wpAny_items_cons (wpAny_Constant_str h)

theorem mul_par {x : Str} {n : Int} {t u : Tok} {Q : Value → Shared → Prop} (hx : x.length = 1) (h0 : -100 ≤ n) (hn : n ≤ 100) (h : ∀ t' k, Q (.str (Txt.mul x n) t') { s with toks := k }) :
    wpAny (model prog w) A (binaryOp .Mult (.str x t) (.int n u)) Q E s := by
  refine SB.mul ⟨?_, ?_, ?_⟩ h
  · have a1 : ¬ n < -(2 ^ 63 : Int) := by omega
    have a2 : ¬ n ≥ 2 ^ 63 := by omega
    rw [decide_eq_false a1, decide_eq_false a2]; rfl
  · intro h1 _
    rw [hx]
    have : n ≤ 2 ^ 63 - 1 := by omega
    have h3 : (1 : Int) ≤ (2 ^ 63 - 1) / n := (Int.le_ediv_iff_mul_le (by omega)).mpr (by omega)
    omega
  · intro h1 _
    rw [hx]
    have : n.toNat ≤ 100 := by omega
    have h2 : 1 * n.toNat ≤ sizeLine := by size_fits
    exact decide_eq_false (Nat.not_lt.mpr h2)
end
end Mine
end

section
open PySem PySem.W PyProof.Rows PySem.Calls
namespace Mine

noncomputable def lawFd (P : Params) : FuncData := match (KH P).lookup 87 with
  | some o => (match o.data with | .func fd => fd | _ => default)
  | none => default
noncomputable def lawBody (P : Params) : List Stmt := match (lawFd P).body with | .stmts b => b | _ => []
noncomputable abbrev lawEnv (P : Params) (L : Addr) : Env := envOfC (Str.ofString "law") (lawFd P).scope L 87 (.ref 86)

def hid6 : List Str := [Str.ofString "", Str.ofString "\"(\"", Str.ofString "", Str.ofString "\\)", Str.ofString "\\\"", Str.ofString "\\\\"]

structure LawSt (h₀ : Heap) (l pc : Addr) (cnt ld : Nat) (tc tl : Tok) (ps : List (Str × Tok)) (h : Heap) : Prop where
  kp : Kp h₀ h
  c1 : h.IsCell (h₀.objs.size + 1) (some (.ref l))
  c2 : h.IsCell (h₀.objs.size + 1 + 1) (some (.int (cnt : Nat) tc))
  c4 : h.IsCell (h₀.objs.size + 1 + 1 + 1 + 1) (some (.ref pc))
  c5 : h.IsCell (h₀.objs.size + 1 + 1 + 1 + 1 + 1) (some (.int (ld : Nat) tl))
  pl : h.IsList pc (strValues ps).toArray

theorem frK {h₀ h h' : Heap} {L : Addr} {m : Str → Option Value} (F : Fr h₀ L h m) (k : Kp h h') : Fr h₀ L h' m := ⟨F.ns.keeps k, fun b o e => k b o (F.keep b o e), F.above⟩
theorem kpPush (h : Heap) (o : Obj) : Kp h (h.push o) := fun _ _ e => Heap.get?_push_of_some _ e

theorem strs_paired {P : Str → Prop} : ∀ {is : List Nat} {ys : List Value}, Paired (fun _ y => ∃ x t, P x ∧ y = .str x t) is ys → ∃ l : List (Str × Tok), ys = strValues l ∧ l.length = is.length ∧ ∀ p ∈ l, P p.1
  | _, _, .nil => ⟨[], rfl, rfl, fun _ hm => nomatch hm⟩
  | _, _, .cons ⟨x, t, hx, e⟩ r => by
    obtain ⟨l, h1, h2, h3⟩ := strs_paired r
    subst e; subst h1
    refine ⟨(x, t) :: l, rfl, by simp [h2], fun p hp => ?_⟩
    rcases List.mem_cons.mp hp with rfl | hp
    · exact hx
    · exact h3 p hp

theorem fmod_nat (z : Int) {k : Nat} (hk : 0 < k) : ∃ n : Nat, n < k ∧ z.fmod k = n := by
  refine ⟨(z.fmod k).toNat, ?_, ?_⟩
  · have := Int.fmod_lt_of_pos z (b := k) (by omega)
    have := Int.fmod_nonneg_of_pos z (b := k) (by omega)
    omega
  · have := Int.fmod_nonneg_of_pos z (b := k) (by omega)
    omega

theorem list_cell {h : Heap} {a c : Addr} {xs : Array Value} {v : Option Value} (hl : h.IsList a xs) (hc : h.IsCell c v) : a ≠ c := by
  rintro rfl
  obtain ⟨o, e, _, n, hd⟩ := hl
  obtain ⟨o', e', hd'⟩ := hc
  rw [e] at e'; cases e'
  rw [hd] at hd'; cases hd'
theorem list_ns {h : Heap} {a L : Addr} {xs : Array Value} {m : Str → Option Value} (hl : h.IsList a xs) (hn : h.Ns L m) : a ≠ L := by
  rintro rfl
  obtain ⟨oL, _, _, hL, hd, _⟩ := hn
  obtain ⟨ol, hol, _, n', hd'⟩ := hl
  rw [hL] at hol; cases hol
  rw [hd] at hd'; cases hd'

section
variable {M : Model} {A : Around} {E : Value → Shared → Prop} {s : Shared} {name : Str} {scope : Scope} {L a : Addr} {cd : Value} {h₀ : Heap} {m cm : Str → Option Value}
theorem stCs {x : Str} {c : Addr} {v : Value} {Q : Unit → Shared → Prop} (F : Fr h₀ L s.heap m) (X : Cl L (cellsFrom (L + 1) scope.names []) s.heap cm) (hc : (cellsFrom (L + 1) scope.names []).lookup x = some c)
    (h : ∀ h', Fr h₀ L h' m → Cl L (cellsFrom (L + 1) scope.names []) h' (fun y => if y = x then some v else cm y) → (∀ b xs, s.heap.IsList b xs → h'.IsList b xs) → Q () { s with heap := h' })
    (hk : scope.kind = .function := by rfl) (hl : (envOfC name scope L a cd).kindOf x = some .cell := by rfl) :
    wpAny M A (storeName (envOfC name scope L a cd) x v) Q E s := by
  have hLc : L < c := X.above x c (mem_of_lookup hc)
  refine wpAny_storeName_cell hk hl hc (X.cell x c hc) fun h' hv hs => h h' ⟨F.ns.sameBut hs (Nat.ne_of_lt hLc), fun b o e => (hs.2 b (Nat.ne_of_lt (Nat.lt_trans (Nat.lt_of_lt_of_le (Heap.lt_size e) F.above) hLc))).trans (F.keep b o e), F.above⟩
    ⟨fun n c' e => ?_, X.apart, X.above⟩ fun b xs hb => hb.extBut hs.extBut (list_cell hb (X.cell x c hc))
  by_cases hn : n = x
  · subst hn; rw [hc] at e; cases e; simpa using hv
  · have hcc : c' ≠ c := fun q => hn (name_of_addr X.apart (mem_of_lookup e) (q ▸ mem_of_lookup hc))
    simpa [hn] using (X.cell n c' e).sameBut hs hcc
end

section
variable {w : World} {A : Around} {E : Value → Shared → Prop} {s : Shared} {mg mb : Str → Option Value}

set_option maxRecDepth 20000 in
set_option maxHeartbeats 4000000 in
theorem stageA {l : Addr} {vs : List Value} {ns : List Int} {Q : Flow → Shared → Prop} {h₀ : Heap} {m cm : Str → Option Value} (W : Wd w mg mb h₀) (hh : A.handled = none) (F : Fr h₀ h₀.objs.size s.heap m)
    (X : Cl h₀.objs.size (cellsFrom (h₀.objs.size + 1) (lawFd w.params).scope.names []) s.heap cm) (hcm : cm (Str.ofString "script") = some (.ref l)) (hl : h₀.IsList l vs.toArray) (hI : IntsAre vs ns) (hn : ns.length ≤ 63)
    (next : ∀ h tk cnt ld tc tl ps pc m', (cnt = 4 ∨ cnt = 5) → ld < 3 → ps.length = cnt → (∀ p ∈ ps, p.1 ∈ hid6) → LawSt h₀ l pc cnt ld tc tl ps h → h.Ns h₀.objs.size m' →
      wpAny (model pr w) A (execs ((lawBody w.params).drop 4) (lawEnv w.params h₀.objs.size)) Q E { s with heap := h, toks := tk }) :
    wpAny (model pr w) A (execs (lawBody w.params) (lawEnv w.params h₀.objs.size)) Q E s := by
  have hml : mg (Str.ofString "len") = none := mg_none_of W.K W.g (by with_unfolding_all rfl)
  have hmr : mg (Str.ofString "range") = none := mg_none_of W.K W.g (by with_unfolding_all rfl)
  have hms : mg (Str.ofString "sum") = none := mg_none_of W.K W.g (by with_unfolding_all rfl)
  have hvl : vs.length = ns.length := by have := IntsAre.length hI; omega
  show wpAny _ _ (execs (_ :: _ :: _ :: _ :: (lawBody w.params).drop 4) _) _ _ _
  refine wpAny_execs_cons (wpAny_Assign_Name (wpAny_mono (Q := fun v s' => ∃ (cnt : Nat) (t : Tok) (tk : Nat), (cnt = 4 ∨ cnt = 5) ∧ v = .int (cnt : Nat) t ∧ s' = { s with toks := tk }) ?_ ?_ fun _ _ e => e) ?hs)
  case hs => rfl
  · refine wpAny_IfExp (wpAny_isTrue_Compare1 (Call_ (Name_function_global rfl rfl (loadGlobal_builtin (W.g.keeps F.keep) hml (W.b.keeps F.keep) ((W.bb _ (by decide)).trans boot_len) ?_))))
    refine PyProof.Rows.callWith_builtin1 (args_cons (ldC X rfl hcm (args_nil (PyProof.Rows.len_list (hl.at fun o e => F.keep _ o e) (by rw [List.size_toArray]; omega) ?_))))
    refine wpAny_Constant_int (PyProof.Rows.lt_int (wpAny_truthy_bool ?_))
    refine ifb (fun _ => ?_) (fun _ => ?_)
    · exact wpAny_Constant_int ⟨4, _, _, .inl rfl, rfl, rfl⟩
    · exact wpAny_Constant_int ⟨5, _, _, .inr rfl, rfl, rfl⟩
  rintro v s' ⟨cnt, tc, tk₁, hcnt, rfl, rfl⟩
  refine stCs F X rfl fun h₁ F₁ X₁ _ => ?_
  dsimp only at F₁ X₁ ⊢
  refine wpAny_execs_cons (wpAny_Assign_Name (wpAny_List ?_) ?hs)
  case hs => rfl
  refine itS ?_
  dsimp only
  refine itS ?_
  dsimp only
  refine itS ?_
  dsimp only
  refine itS ?_
  dsimp only
  refine itS ?_
  dsimp only
  refine itS ?_
  dsimp only
  refine wpAny_items_nil ⟨by size_fits, ?_⟩
  dsimp only
  refine stCs (frK F₁ (kpPush _ _)) (X₁.keeps (kpPush _ _)) rfl fun h₂ F₂ X₂ L₂ => ?_
  have hhid := L₂ _ _ ⟨_, Heap.get?_push_size _ rfl, rfl, _, rfl⟩
  dsimp only at F₂ X₂ hhid ⊢
  clear L₂
  generalize h₁.objs.size = hid at X₂ hhid
  generalize tk₁ + 1 + 1 + 1 + 1 + 1 + 1 = tk₂
  refine wpAny_execs_cons (wpAny_Assign_Name (comp_eval rfl rfl (by decide) (Call_ (Name_function_global rfl rfl (loadGlobal_builtin (W.g.keeps F₂.keep) hmr (W.b.keeps F₂.keep) ((W.bb _ (by decide)).trans boot_range)
    (PyProof.Rows.callWith_type1 (args_cons (ldC X₂ rfl rfl (args_nil (range_it (by omega) fun h₃ tk₃ I hk₃ hI1 hI2 hit => ?_)))))))) ) ?hs)
  case hs => rfl
  dsimp only at hk₃ hI1 hI2
  have hc1 : h₂.IsCell (h₀.objs.size + 1) (some (.ref l)) := by
    have := X₂.cell (Str.ofString "script") _ rfl
    rw [← hcm]; exact this
  have hc2 : h₂.IsCell (h₀.objs.size + 1 + 1) (some (.int (cnt : Nat) tc)) := X₂.cell (Str.ofString "count") _ rfl
  have hc3 : h₂.IsCell (h₀.objs.size + 1 + 1 + 1) (some (.ref hid)) := X₂.cell (Str.ofString "hidden") _ rfl
  have hcn5 : cnt ≤ 5 := by omega
  refine comp_block (n := cnt) (feeds_name (Walks.range hh I 0 1 cnt) rfl rfl) (fun _ => true) (fun i y _ => ∃ x t, x ∈ hid6 ∧ y = .str x t) (by decide) rfl ?_ ?_ (fun _ _ _ _ q _ => q) ?_ ?_ (by omega) ?_
  · simpa using hit
  · intro b hb; rw [List.mem_singleton.mp hb]; exact hI2
  · intro i h tk m₂ E' hi hb hn' hk
    exact wpAny_tests_nil ⟨rfl, h, tk, rfl, fun _ _ e => e⟩
  · rintro i h tk m₂ E' hi - ⟨v, ⟨tp, rfl⟩, hm⟩ hn' hk
    have off : Kp h₂ h := fun b o e => hk b o (fun q => by rw [List.mem_singleton.mp q] at e; exact absurd (Heap.lt_size e) (Nat.not_lt.mpr hI1)) (hk₃ b o e)
    refine Subscript_ (wpAny_Name (wpAny_loadName_cell rfl rfl rfl (hc3.keeps off) ?_))
    refine wpAny_BinOp (wpAny_BinOp (Subscript_ (wpAny_List ?_)))
    refine itI ?_
    dsimp only
    refine itI ?_
    dsimp only
    refine itI ?_
    dsimp only
    refine itI ?_
    dsimp only
    refine itI ?_
    dsimp only
    refine wpAny_items_nil ⟨by size_fits, ?_⟩
    dsimp only
    refine wpAny_Name (wpAny_loadName_local rfl rfl (hn'.keeps (kpPush _ _)) hm ?_)
    have kp5 := kpPush h (lo [.int 0 tk, .int 3 (tk + 1), .int 2 (tk + 1 + 1), .int 5 (tk + 1 + 1 + 1), .int 1 (tk + 1 + 1 + 1 + 1)])
    have l5 : (h.push (lo [.int 0 tk, .int 3 (tk + 1), .int 2 (tk + 1 + 1), .int 5 (tk + 1 + 1 + 1), .int 1 (tk + 1 + 1 + 1 + 1)])).IsList h.objs.size [.int 0 tk, .int 3 (tk + 1), .int 2 (tk + 1 + 1), .int 5 (tk + 1 + 1 + 1), .int 1 (tk + 1 + 1 + 1 + 1)].toArray :=
      isList_lo (Heap.get?_push_size _ rfl)
    generalize h.push (lo [.int 0 tk, .int 3 (tk + 1), .int 2 (tk + 1 + 1), .int 5 (tk + 1 + 1 + 1), .int 1 (tk + 1 + 1 + 1 + 1)]) = h5 at kp5 l5
    obtain ⟨z, tz, hz⟩ : ∃ z tz, ([.int 0 tk, .int 3 (tk + 1), .int 2 (tk + 1 + 1), .int 5 (tk + 1 + 1 + 1), .int 1 (tk + 1 + 1 + 1 + 1)] : List Value)[i]? = some (.int z tz) := by
      rcases (show i = 0 ∨ i = 1 ∨ i = 2 ∨ i = 3 ∨ i = 4 by omega) with rfl | rfl | rfl | rfl | rfl <;> exact ⟨_, _, rfl⟩
    have hi0 : (0 + ((i : Nat) : Int) * 1).toNat = i := by omega
    refine tail_any (ops := [.ref h.objs.size, .int (0 + ((i : Nat) : Int) * 1) tp]) l5.typeIs slot_list_getitem.lookup (wpAny_getItem_list (x := .int z tz) l5 (by omega) (by omega) (by rw [hi0]; simpa using hz) ?_) (by with_unfolding_all rfl)
    have off5 : Kp h₂ h5 := fun b o e => kp5 b o (off b o e)
    have kp0 : Kp h₀ h5 := fun b o e => off5 b o (F₂.keep b o e)
    refine Call_ (Name_function_global rfl rfl (loadGlobal_builtin (W.g.keeps kp0) hms (W.b.keeps kp0) ((W.bb _ (by decide)).trans boot_sum) (PyProof.Rows.callWith_builtin1 (args_cons (sliceK ?_)))))
    refine wpAny_Name (wpAny_loadName_cell rfl rfl rfl (hc1.keeps off5) (wpAny_Name (wpAny_loadName_local rfl rfl (hn'.keeps kp5) hm (wpAny_Name (wpAny_loadName_cell rfl rfl rfl (hc2.keeps off5) ?_)))))
    refine ⟨l, vs.toArray, _, _, _, _, rfl, rfl, rfl, by omega, hl.at fun o e => kp0 _ o e, by rw [List.size_toArray]; size_fits, fun h6 a hk6 _ hla => args_nil ?_⟩
    refine sum_ok hh hla (hI.pick _ _ _) fun h7 tk7 t7 hk7 => ?_
    refine PyProof.Rows.add_int (wpAny_Constant_int (mod_int' (by decide) ?_))
    obtain ⟨k, hk6', hkk⟩ := fmod_nat (z + (pickNums ns (some (0 + ((i : Nat) : Int) * 1)) none (some ((cnt : Nat) : Int))).sum) (k := 6) (by decide)
    obtain ⟨x, tx, hx, hxm⟩ : ∃ x tx, ([.str (Str.ofString "") tk₁, .str (Str.ofString "\"(\"") (tk₁ + 1), .str (Str.ofString "") (tk₁ + 1 + 1), .str (Str.ofString "\\)") (tk₁ + 1 + 1 + 1), .str (Str.ofString "\\\"") (tk₁ + 1 + 1 + 1 + 1), .str (Str.ofString "\\\\") (tk₁ + 1 + 1 + 1 + 1 + 1)] : List Value)[k]? = some (.str x tx) ∧ x ∈ hid6 := by
      rcases (show k = 0 ∨ k = 1 ∨ k = 2 ∨ k = 3 ∨ k = 4 ∨ k = 5 by omega) with rfl | rfl | rfl | rfl | rfl | rfl
      · exact ⟨_, _, rfl, .head _⟩
      · exact ⟨_, _, rfl, .tail _ (.head _)⟩
      · exact ⟨_, _, rfl, .tail _ (.tail _ (.head _))⟩
      · exact ⟨_, _, rfl, .tail _ (.tail _ (.tail _ (.head _)))⟩
      · exact ⟨_, _, rfl, .tail _ (.tail _ (.tail _ (.tail _ (.head _))))⟩
      · exact ⟨_, _, rfl, .tail _ (.tail _ (.tail _ (.tail _ (.tail _ (.head _)))))⟩
    have kpe : Kp h h7 := fun b o e => hk7 b o (hk6 b o (kp5 b o e))
    have hid7 := hhid.at fun o e => kpe _ o (off _ o e)
    refine item_listL hid7 ?_ ?_ (x := .str x tx) ?_ ⟨⟨x, tx, hxm, rfl⟩, h7, _, rfl, kpe⟩
    · show 0 ≤ (z + _).fmod ((6 : Nat) : Int)
      rw [hkk]; omega
    · show (z + _).fmod ((6 : Nat) : Int) < 2 ^ 63
      rw [hkk]; omega
    · have : ((z + (pickNums ns (some (0 + ((i : Nat) : Int) * 1)) none (some ((cnt : Nat) : Int))).sum).fmod 6).toNat = k := by
        have : ((6 : Nat) : Int) = 6 := rfl
        rw [this] at hkk
        rw [hkk]; omega
      rw [this]; exact hx
  · intro h' tk m' ys hn' hP hPr hk
    refine post_eval hn' fun h'' hs'' => ?_
    have hP'' := hP.extBut hs''.extBut (Nat.ne_of_lt (Nat.lt_succ_self _))
    have kk : Kp h₂ h'' := fun b o e => hs''.extBut b o (Nat.ne_of_lt (Nat.lt_succ_of_lt (Heap.lt_size (hk₃ b o e)))) (hk b o (fun q => by rw [List.mem_singleton.mp q] at e; exact absurd (Heap.lt_size e) (Nat.not_lt.mpr hI1)) (hk₃ b o e))
    rw [List.filter_eq_self.mpr (fun _ _ => rfl)] at hPr
    obtain ⟨ps, rfl, hpl, hpm⟩ := strs_paired hPr
    rw [List.length_range] at hpl
    refine stCs (frK F₂ kk) (X₂.keeps kk) rfl fun h₄ F₄ X₄ L₄ => ?_
    have hpc := L₄ _ _ hP''.isList
    dsimp only at F₄ X₄ hpc ⊢
    clear L₄
    refine wpAny_execs_cons (wpAny_Assign_Name (wpAny_BinOp (wpAny_BinOp (wpAny_Constant_int (Call_ (Name_function_global rfl rfl (loadGlobal_builtin (W.g.keeps F₄.keep) hms (W.b.keeps F₄.keep) ((W.bb _ (by decide)).trans boot_sum) ?_)))))) ?hs)
    case hs => rfl
    refine PyProof.Rows.callWith_builtin1 (args_cons (ldC X₄ rfl hcm (args_nil (sum_ok hh (hl.at fun o e => F₄.keep _ o e) hI fun h₅ tk₅ t₅ hk₅ => ?_))))
    dsimp only at hk₅ ⊢
    refine PyProof.Rows.add_int (wpAny_Constant_int (mod_int' (by decide) ?_))
    obtain ⟨ld, hld, hle⟩ := fmod_nat (1 + ns.sum) (k := 3) (by decide)
    have hle' : (1 + ns.sum).fmod 3 = ld := hle
    rw [hle']
    dsimp only
    refine stCs (frK F₄ hk₅) (X₄.keeps hk₅) rfl fun h₆ F₆ X₆ L₆ => ?_
    have hpc₆ := L₆ _ _ (hpc.at fun o e => hk₅ _ o e)
    dsimp only at F₆ X₆ hpc₆ ⊢
    refine next h₆ _ cnt ld tc _ ps _ _ hcnt hld hpl hpm ⟨F₆.keep, ?_, X₆.cell (Str.ofString "count") _ rfl, X₆.cell (Str.ofString "pieces") _ rfl, X₆.cell (Str.ofString "lead") _ rfl, hpc₆⟩ F₆.ns
    have := X₆.cell (Str.ofString "script") _ rfl
    rw [← hcm]; exact this
end
end Mine
end

section
open PySem PySem.W PyProof.Rows PySem.Calls
namespace Mine

theorem glue_list : ∀ (r : List Str) (acc : Array Nat), (r.foldl (fun acc p => acc ++ (Str.ofString "").cps ++ p.cps) acc).toList = acc.toList ++ r.flatMap fun y => y.cps.toList
  | [], acc => by simp
  | y :: r, acc => by
    rw [List.foldl_cons, glue_list r, show (Str.ofString "").cps = #[] from rfl]
    simp
theorem join_list (xs : List Str) : (Txt.join (Str.ofString "") xs).cps.toList = xs.flatMap fun y => y.cps.toList := by
  cases xs with
  | nil => rfl
  | cons x r =>
    show (r.foldl (fun acc p => acc ++ (Str.ofString "").cps ++ p.cps) x.cps).toList = _
    rw [glue_list]; simp

/-- the sign of a bit -/
def sg (b : Int) : Nat := if b == 0 then 40 else 41
theorem text_list (bs : List Int) (ps : List Str) : (textOf bs ps).cps.toList = (List.zipWith (fun b (p : Str) => sg b :: p.cps.toList) bs ps).flatten := by
  rw [textOf, join_list]
  induction bs generalizing ps with
  | nil => rfl
  | cons b bs ih =>
    cases ps with
    | nil => rfl
    | cons p ps =>
      simp only [List.zipWith_cons_cons, List.flatMap_cons, List.flatten_cons, ih]
      congr 1
      show (_ ++ p).cps.toList = _
      unfold sg
      cases b == 0
      · rw [if_neg Bool.false_ne_true, if_neg Bool.false_ne_true, cls]
        show (#[41] ++ p.cps).toList = _
        simp
      · rw [if_pos rfl, if_pos rfl, opn]
        show (#[40] ++ p.cps).toList = _
        simp
theorem len_list' (x : Str) : x.length = x.cps.toList.length := rfl
theorem text_len {bs : List Int} {ps : List Str} (hn : bs.length ≤ 10) (hl : ∀ p ∈ ps, p.length ≤ 10) : (textOf bs ps).length ≤ 11 * 10 := by
  rw [len_list', text_list]
  have : ∀ (bs : List Int) (ps : List Str), (∀ p ∈ ps, p.length ≤ 10) → ((List.zipWith (fun b (p : Str) => sg b :: p.cps.toList) bs ps).flatten).length ≤ 11 * bs.length := by
    intro bs
    induction bs with
    | nil => intro ps _; simp
    | cons b bs ih =>
      intro ps h
      cases ps with
      | nil => simp
      | cons p ps =>
        have h1 := h p List.mem_cons_self
        have h2 := ih ps fun q hq => h q (List.mem_cons_of_mem _ hq)
        rw [len_list'] at h1
        simp only [List.zipWith_cons_cons, List.flatten_cons, List.length_append, List.length_cons] at h2 ⊢
        omega
  have := this bs ps hl
  omega
theorem row_sum (i n : Nat) : 0 ≤ (rowOf i n).sum ∧ (rowOf i n).sum ≤ n := by
  unfold rowOf
  have : ∀ l : List Nat, 0 ≤ (l.map fun p => ((i / 2 ^ (n - 1 - p) % 2 : Nat) : Int)).sum ∧ (l.map fun p => ((i / 2 ^ (n - 1 - p) % 2 : Nat) : Int)).sum ≤ l.length := by
    intro l
    induction l with
    | nil => simp
    | cons p l ih =>
      have h2 : i / 2 ^ (n - 1 - p) % 2 < 2 := Nat.mod_lt _ (by decide)
      simp only [List.map_cons, List.sum_cons, List.length_cons]
      omega
  have := this (List.range n)
  rw [List.length_range] at this
  exact this
theorem row_len (i n : Nat) : (rowOf i n).length = n := by simp [rowOf]

def fieldS (ld cnt : Nat) (bs : List Int) (tx : Str) : Str := Txt.mul (Str.ofString "(") ld ++ tx ++ Txt.mul (Str.ofString ")") (ld + cnt - 2 * bs.sum)
theorem mul_list {x : Str} {c : Nat} (hx : x = ⟨#[c]⟩) (n : Int) : (Txt.mul x n).cps.toList = List.replicate n.toNat c := by subst hx; exact mul_one_list c n
theorem field_list (ld cnt : Nat) (bs : List Int) (tx : Str) : (fieldS ld cnt bs tx).cps.toList = List.replicate ld 40 ++ tx.cps.toList ++ List.replicate ((ld : Int) + cnt - 2 * bs.sum).toNat 41 := by
  show (Txt.mul _ _ ++ tx ++ Txt.mul _ _).cps.toList = _
  have e1 := mul_list opn (ld : Int)
  have e2 := mul_list cls ((ld : Int) + cnt - 2 * bs.sum)
  rw [Int.toNat_natCast] at e1
  show ((Txt.mul _ _).cps ++ tx.cps ++ (Txt.mul _ _).cps).toList = _
  rw [Array.toList_append, Array.toList_append, e1, e2]
end Mine
end

section
open PySem PySem.W PyProof.Rows PySem.Calls
namespace Mine

/-- all but the frame stands -/
abbrev Fb (L : Addr) (h h' : Heap) : Prop := ∀ b o, b ≠ L → h.get? b = some o → h'.get? b = some o
theorem cell_fb {L c : Addr} {h h' : Heap} {v : Option Value} (x : h.IsCell c v) (hc : c ≠ L) (k : Fb L h h') : h'.IsCell c v := let ⟨o, e, d⟩ := x; ⟨o, k _ _ hc e, d⟩
theorem list_fb {L a : Addr} {h h' : Heap} {xs : Array Value} {m : Str → Option Value} (x : h.IsList a xs) (hn : h.Ns L m) (k : Fb L h h') : h'.IsList a xs := x.at fun o e => k _ o (list_ns x hn) e
theorem LawSt.step {h₀ h h' : Heap} {l pc : Addr} {cnt ld : Nat} {tc tl : Tok} {ps : List (Str × Tok)} {m : Str → Option Value} (X : LawSt h₀ l pc cnt ld tc tl ps h) (hn : h.Ns h₀.objs.size m) (k : Fb h₀.objs.size h h') :
    LawSt h₀ l pc cnt ld tc tl ps h' where
  kp := fun b o e => k b o (Nat.ne_of_lt (Heap.lt_size e)) (X.kp b o e)
  c1 := cell_fb X.c1 (Nat.succ_ne_self _) k
  c2 := cell_fb X.c2 (Nat.ne_of_gt (Nat.lt_succ_of_lt (Nat.lt_succ_self _))) k
  c4 := cell_fb X.c4 (Nat.ne_of_gt (Nat.lt_succ_of_lt (Nat.lt_succ_of_lt (Nat.lt_succ_of_lt (Nat.lt_succ_self _))))) k
  c5 := cell_fb X.c5 (Nat.ne_of_gt (Nat.lt_succ_of_lt (Nat.lt_succ_of_lt (Nat.lt_succ_of_lt (Nat.lt_succ_of_lt (Nat.lt_succ_self _)))))) k
  pl := list_fb X.pl hn k
theorem LawSt.keeps {h₀ h h' : Heap} {l pc : Addr} {cnt ld : Nat} {tc tl : Tok} {ps : List (Str × Tok)} (X : LawSt h₀ l pc cnt ld tc tl ps h) (k : Kp h h') : LawSt h₀ l pc cnt ld tc tl ps h' :=
  ⟨fun b o e => k b o (X.kp b o e), X.c1.keeps k, X.c2.keeps k, X.c4.keeps k, X.c5.keeps k, X.pl.at fun o e => k _ o e⟩

def RowsAt (rw : Addr) (cnt : Nat) (h : Heap) : Prop := ∃ ys : List Value, h.IsList rw ys.toArray ∧ ys.length = 2 ^ cnt ∧ ∀ i, i < 2 ^ cnt → ∃ a vs, ys[i]? = some (.ref a) ∧ h.IsList a (List.toArray vs) ∧ IntsAre vs (rowOf i cnt)
theorem RowsAt.step {rw L : Addr} {cnt : Nat} {h h' : Heap} {m : Str → Option Value} (X : RowsAt rw cnt h) (hn : h.Ns L m) (k : Fb L h h') : RowsAt rw cnt h' := by
  obtain ⟨ys, h1, h2, h3⟩ := X
  refine ⟨ys, list_fb h1 hn k, h2, fun i hi => ?_⟩
  obtain ⟨a, vs, e1, e2, e3⟩ := h3 i hi
  exact ⟨a, vs, e1, list_fb e2 hn k, e3⟩
theorem RowsAt.keeps {rw : Addr} {cnt : Nat} {h h' : Heap} (X : RowsAt rw cnt h) (k : Kp h h') : RowsAt rw cnt h' := by
  obtain ⟨ys, h1, h2, h3⟩ := X
  refine ⟨ys, h1.at fun o e => k _ o e, h2, fun i hi => ?_⟩
  obtain ⟨a, vs, e1, e2, e3⟩ := h3 i hi
  exact ⟨a, vs, e1, e2.at fun o e => k _ o e, e3⟩
def StrsAt (a : Addr) (xs : List Str) (h : Heap) : Prop := ∃ l : List (Str × Tok), h.IsList a (strValues l).toArray ∧ l.map (·.1) = xs
theorem StrsAt.step {a L : Addr} {xs : List Str} {h h' : Heap} {m : Str → Option Value} (X : StrsAt a xs h) (hn : h.Ns L m) (k : Fb L h h') : StrsAt a xs h' := let ⟨l, h1, h2⟩ := X; ⟨l, list_fb h1 hn k, h2⟩
theorem StrsAt.keeps {a : Addr} {xs : List Str} {h h' : Heap} (X : StrsAt a xs h) (k : Kp h h') : StrsAt a xs h' := let ⟨l, h1, h2⟩ := X; ⟨l, h1.at fun o e => k _ o e, h2⟩

theorem refs_paired {P : Nat → Addr → Prop} : ∀ {is : List Nat} {ys : List Value}, Paired (fun (i : Nat) (y : Value) => ∃ a, y = Value.ref a ∧ P i a) is ys → ys.length = is.length ∧ ∀ j i : Nat, is[j]? = some i → ∃ a, ys[j]? = some (Value.ref a) ∧ P i a
  | _, _, .nil => ⟨rfl, fun j i e => by simp at e⟩
  | _, _, .cons ⟨a, e, hp⟩ r => by
    obtain ⟨h1, h2⟩ := refs_paired r
    subst e
    refine ⟨by simp [h1], fun j i e => ?_⟩
    cases j with
    | zero => simp at e; subst e; exact ⟨a, rfl, hp⟩
    | succ j => exact h2 j i (by simpa using e)

theorem range_it' {w : World} {A : Around} {E : Value → Shared → Prop} {s : Shared} {n : Nat} {z : Int} {t : Tok} {Q : Value → Shared → Prop} (hz : z = (n : Nat)) (hn : n ≤ 1000)
    (hQ : ∀ h' tk I, Kp s.heap h' → s.heap.objs.size ≤ I → I < h'.objs.size → IsRangeIter h' I 0 n 1 → Q (.ref I) { s with heap := h', toks := tk }) :
    wpAny (model pr w) A (call (.type "range") [.int z t]) (fun x s₁ => wpAny (model pr w) A (pyIter x) Q E s₁) E s := by
  subst hz; exact range_it hn hQ
theorem row_ok' {w : World} {A : Around} {E : Value → Shared → Prop} {s : Shared} {mg mb : Str → Option Value} {way n : Nat} {z : Int} {t u : Tok} {Q : Value → Shared → Prop} (hz : z = (way : Nat)) (W : Wd w mg mb s.heap) (hh : A.handled = none) (hroom : A.depth < recursionLimit) (hn : n ≤ 10)
    (hQ : ∀ h' tk a vs, Kp s.heap h' → s.heap.objs.size ≤ a → PlainL h' a (List.toArray vs) → IntsAre vs (rowOf way n) → Q (.ref a) { s with heap := h', toks := tk }) :
    wpAny (model pr w) A (call (.ref 65) [.int z t, .int (n : Nat) u]) Q E s := by
  subst hz; exact row_ok W hh hroom hn hQ

section
variable {w : World} {A : Around} {E : Value → Shared → Prop} {s : Shared} {mg mb : Str → Option Value}

theorem post_store {Q : Shared → Prop} {s₂ : Shared} {h' : Heap} {tk : Nat} {m m' : Str → Option Value} {D C : Addr} {y : Str} {py : Pos} {env : Env} (hn : h'.Ns C m') (hL : h'.Ns env.locals m) (hLC : env.locals ≠ C)
    (hy : env.kindOf y = some .local) (hp : (env.scope.kind == .class || (env.scope.kind == .module && env.locals != env.globals)) = false)
    (hQ : ∀ h'' tk', h''.Ns env.locals (fun z => if z = y then some (.ref D) else m z) → (∀ b o, b ≠ env.locals → b ≠ C → h'.get? b = some o → h''.get? b = some o) → Q { s₂ with heap := h'', toks := tk' }) :
    compPost (model pr w) A E (some (assign (.Name y py) env)) (fun _ s' => Q s') (.ref D) C (.ok .next) { s₂ with heap := h', toks := tk } :=
  post_assign (Q := fun _ s' => Q s') hn hL hLC hy hp hQ

set_option maxRecDepth 20000 in
set_option maxHeartbeats 4000000 in
theorem stageB1 {l pc : Addr} {cnt ld : Nat} {tc tl : Tok} {ps : List (Str × Tok)} {Q : Flow → Shared → Prop} {h₀ : Heap} {m : Str → Option Value} (W : Wd w mg mb h₀) (hh : A.handled = none) (hroom : A.depth < recursionLimit)
    (hcnt : cnt = 4 ∨ cnt = 5) (X : LawSt h₀ l pc cnt ld tc tl ps s.heap) (hL : s.heap.Ns h₀.objs.size m)
    (next : ∀ h tk rw, LawSt h₀ l pc cnt ld tc tl ps h → RowsAt rw cnt h → h.Ns h₀.objs.size (fun z => if z = Str.ofString "rows" then some (.ref rw) else m z) →
      wpAny (model pr w) A (execs ((lawBody w.params).drop 5) (lawEnv w.params h₀.objs.size)) Q E { s with heap := h, toks := tk }) :
    wpAny (model pr w) A (execs ((lawBody w.params).drop 4) (lawEnv w.params h₀.objs.size)) Q E s := by
  have hmr : mg (Str.ofString "range") = none := mg_none_of W.K W.g (by with_unfolding_all rfl)
  have hmrow : mg (Str.ofString "_law_row") = some (.ref 65) := mg_of W.K W.g (by with_unfolding_all rfl)
  show wpAny _ _ (execs (_ :: (lawBody w.params).drop 5) _) _ _ _
  refine wpAny_execs_cons (comp_assign rfl rfl rfl (by decide) (Call_ (Name_function_global rfl rfl (loadGlobal_builtin (W.g.keeps X.kp) hmr (W.b.keeps X.kp) ((W.bb _ (by decide)).trans boot_range) ?_))))
  refine PyProof.Rows.callWith_type1 (args_cons (wpAny_BinOp (wpAny_Constant_int (wpAny_Name (wpAny_loadName_cell rfl rfl rfl X.c2 (pow_int (by omega) ?_ (args_nil (range_it' (n := 2 ^ cnt) ?_ ?_ fun h₁ tk₁ I hk₁ hI1 hI2 hit => ?_))))))))
  · rw [show (Builtin.Int.intBits 2 : Nat) = 2 from by decide +kernel]; omega
  · rw [Int.toNat_natCast]; simp
  · rcases hcnt with rfl | rfl <;> decide
  dsimp only at hk₁ hI1 hI2
  have hN : 2 ^ cnt ≤ 1000 := by rcases hcnt with rfl | rfl <;> decide
  refine comp_block (n := 2 ^ cnt) (feeds_name (Walks.range hh I 0 1 (2 ^ cnt)) rfl rfl) (fun _ => true) (fun i y h => ∃ a, y = .ref a ∧ h₁.objs.size + 1 < a ∧ ∃ vs, h.IsList a (List.toArray vs) ∧ IntsAre vs (rowOf i cnt)) (by decide) rfl ?_ ?_ ?_ ?_ ?_ hN ?_
  · simpa using hit
  · intro b hb; rw [List.mem_singleton.mp hb]; exact hI2
  · rintro i v h h' ⟨a, e1, e2, vs, e3, e4⟩ hk
    refine ⟨a, e1, e2, vs, e3.at fun o e => hk a o (Nat.ne_of_gt (Nat.lt_of_succ_lt e2)) (Nat.ne_of_gt e2) (fun q => ?_) e, e4⟩
    rw [List.mem_singleton.mp q] at e2
    exact absurd (Nat.lt_trans hI2 (Nat.lt_of_succ_lt e2)) (Nat.lt_irrefl _)
  · intro i h tk m₂ E' hi hb hn' hk
    exact wpAny_tests_nil ⟨rfl, h, tk, rfl, fun _ _ e => e⟩
  · rintro i h tk m₂ E' hi - ⟨v, ⟨tp, rfl⟩, hm⟩ hn' hk
    have off : Kp s.heap h := fun b o e => hk b o (fun q => by rw [List.mem_singleton.mp q] at e; exact absurd (Heap.lt_size e) (Nat.not_lt.mpr hI1)) (hk₁ b o e)
    have kp0 : Kp h₀ h := fun b o e => off b o (X.kp b o e)
    refine Call_ (Name_function_global rfl rfl (loadGlobal_global (W.g.keeps kp0) hmrow ?_))
    refine callWith_K W.K (by with_unfolding_all rfl) (args_cons (wpAny_Name (wpAny_loadName_local rfl rfl hn' hm (args_cons (wpAny_Name (wpAny_loadName_cell rfl rfl rfl (X.c2.keeps off) (args_nil ⟨W.K.keeps kp0, ?_⟩)))))))
    refine row_ok' (way := i) (by omega) (W.keeps kp0) hh hroom (by omega) fun h₅ tk₅ a vs hk₅ ha hP hI => ?_
    exact ⟨⟨a, rfl, Nat.lt_of_lt_of_le hn'.lt ha, vs, hP.isList, hI⟩, h₅, tk₅, rfl, hk₅⟩
  · intro h' tk m' ys hn' hP hPr hk
    have off : Kp s.heap h' := fun b o e => hk b o (fun q => by rw [List.mem_singleton.mp q] at e; exact absurd (Heap.lt_size e) (Nat.not_lt.mpr hI1)) (hk₁ b o e)
    have hL' := hL.keeps off
    have hLC : h₀.objs.size ≠ h₁.objs.size + 1 := Nat.ne_of_lt (Nat.lt_succ_of_lt (hL.keeps hk₁).lt)
    dsimp only
    refine post_store (y := Str.ofString "rows") (env := lawEnv w.params h₀.objs.size) hn' hL' hLC rfl rfl fun h'' tk' hns hk'' => ?_
    rw [List.filter_eq_self.mpr (fun _ _ => rfl)] at hPr
    obtain ⟨e1, e2⟩ := refs_paired hPr
    have fb : Fb h₀.objs.size s.heap h'' := fun b o b1 e => hk'' b o b1 (Nat.ne_of_lt (Nat.lt_succ_of_lt (Heap.lt_size (hk₁ b o e)))) (off b o e)
    have hD := list_ns hP.isList hL'
    refine next h'' tk' _ (X.step hL fb) ⟨ys, hP.isList.at fun o e => hk'' _ o hD (Nat.ne_of_lt (Nat.lt_succ_self _)) e, by simpa using e1, fun i hi => ?_⟩ hns
    obtain ⟨a, a1, a2, vs, a3, a4⟩ := e2 i i (by simp [hi])
    exact ⟨a, vs, a1, a3.at fun o e => hk'' _ o (list_ns a3 hL') (Nat.ne_of_gt a2) e, a4⟩

theorem list_it {l : Addr} {xs : Array Value} {Q : Value → Shared → Prop} (hl : s.heap.IsList l xs)
    (hQ : ∀ h' I, Kp s.heap h' → I = s.heap.objs.size → I < h'.objs.size → h'.IsListIter I l 0 → h'.IsList l xs → l ≠ I → l < h'.objs.size → Q (.ref I) { s with heap := h' }) :
    wpAny (model pr w) A (pyIter (.ref l)) Q E s := by
  have hlt : l < s.heap.objs.size := by obtain ⟨o, e, _⟩ := hl; exact Heap.lt_size e
  refine wpAny_pyIter_list hl (hQ _ _ (fun b o e => Heap.get?_push_of_some _ e) rfl ?_ ⟨_, Heap.get?_push_size _ rfl, rfl, rfl⟩ (hl.push _) (Nat.ne_of_lt hlt) ?_)
  · rw [Heap.size_push]; exact Nat.lt_succ_self _
  · rw [Heap.size_push]; exact Nat.lt_succ_of_lt hlt

set_option maxRecDepth 20000 in
set_option maxHeartbeats 4000000 in
theorem stageB2 {l pc rw : Addr} {cnt ld : Nat} {tc tl : Tok} {ps : List (Str × Tok)} {Q : Flow → Shared → Prop} {h₀ : Heap} {m : Str → Option Value} (W : Wd w mg mb h₀) (hh : A.handled = none) (hroom : A.depth < recursionLimit)
    (hcnt : cnt = 4 ∨ cnt = 5) (hps : ∀ p ∈ ps, p.1.length ≤ 10) (X : LawSt h₀ l pc cnt ld tc tl ps s.heap) (hL : s.heap.Ns h₀.objs.size m) (hR : RowsAt rw cnt s.heap) (hm1 : m (Str.ofString "rows") = some (.ref rw))
    (next : ∀ h tk tx, LawSt h₀ l pc cnt ld tc tl ps h → RowsAt rw cnt h → StrsAt tx ((List.range (2 ^ cnt)).map fun i => textOf (rowOf i cnt) (ps.map (·.1))) h → h.Ns h₀.objs.size (fun z => if z = Str.ofString "texts" then some (.ref tx) else m z) →
      wpAny (model pr w) A (execs ((lawBody w.params).drop 6) (lawEnv w.params h₀.objs.size)) Q E { s with heap := h, toks := tk }) :
    wpAny (model pr w) A (execs ((lawBody w.params).drop 5) (lawEnv w.params h₀.objs.size)) Q E s := by
  have hmt : mg (Str.ofString "_law_text") = some (.ref 70) := mg_of W.K W.g (by with_unfolding_all rfl)
  obtain ⟨ys, hys, hyl, hyr⟩ := hR
  have hN : 2 ^ cnt ≤ 1000 := by rcases hcnt with rfl | rfl <;> decide
  show wpAny _ _ (execs (_ :: (lawBody w.params).drop 6) _) _ _ _
  refine wpAny_execs_cons (comp_assign rfl rfl rfl (by decide) (wpAny_Name (wpAny_loadName_local rfl rfl hL hm1 (list_it hys fun h₁ I hk₁ hI1 hI2 hit hli hne hlt => ?_))))
  dsimp only at hk₁ hI1 ⊢
  have hsz : ys.toArray.size = 2 ^ cnt := by simpa using hyl
  refine comp_block (n := ys.toArray.size) (feeds_name (Walks.list hh I rw hne ys.toArray) rfl rfl) (fun _ => true) (fun i y _ => ∃ t, y = .str (textOf (rowOf i cnt) (ps.map (·.1))) t) (by decide) rfl ⟨hit, hli⟩ ?_ (fun _ _ _ _ q _ => q) ?_ ?_ (by rw [hsz]; exact hN) ?_
  · intro b hb
    rcases List.mem_cons.mp hb with rfl | hb
    · exact hI2
    · rw [List.mem_singleton.mp hb]; exact hlt
  · intro i h tk m₂ E' hi hb hn' hk
    exact wpAny_tests_nil ⟨rfl, h, tk, rfl, fun _ _ e => e⟩
  · rintro i h tk m₂ E' hi - ⟨v, hv, hm⟩ hn' hk
    have off : Kp s.heap h := fun b o e => hk b o (fun q => by rw [List.mem_singleton.mp q, hI1] at e; exact absurd (Heap.lt_size e) (Nat.lt_irrefl _)) (hk₁ b o e)
    have kp0 : Kp h₀ h := fun b o e => off b o (X.kp b o e)
    rw [hsz] at hi
    obtain ⟨a, vs, e1, e2, e3⟩ := hyr i hi
    have : v = .ref a := by
      have hv' : ys[i]? = some v := by simpa using hv
      rw [e1] at hv'; exact (Option.some.inj hv').symm
    subst this
    refine Call_ (Name_function_global rfl rfl (loadGlobal_global (W.g.keeps kp0) hmt ?_))
    refine callWith_K W.K (by with_unfolding_all rfl) (args_cons (wpAny_Name (wpAny_loadName_local rfl rfl hn' hm (args_cons (wpAny_Name (wpAny_loadName_cell rfl rfl rfl (X.c4.keeps off) (args_nil ⟨W.K.keeps kp0, ?_⟩)))))))
    refine text_ok (W.keeps kp0) hh hroom (e2.at fun o e => off _ o e) e3 (X.pl.at fun o e => off _ o e) (by rw [row_len]; omega) hps fun h₅ tk₅ t₅ hk₅ => ?_
    exact ⟨⟨_, rfl⟩, h₅, tk₅, rfl, hk₅⟩
  · intro h' tk m' ys' hn' hP hPr hk
    have off : Kp s.heap h' := fun b o e => hk b o (fun q => by rw [List.mem_singleton.mp q, hI1] at e; exact absurd (Heap.lt_size e) (Nat.lt_irrefl _)) (hk₁ b o e)
    have hL' := hL.keeps off
    have hLC : h₀.objs.size ≠ h₁.objs.size + 1 := Nat.ne_of_lt (Nat.lt_succ_of_lt (hL.keeps hk₁).lt)
    dsimp only
    refine post_store (y := Str.ofString "texts") (env := lawEnv w.params h₀.objs.size) hn' hL' hLC rfl rfl fun h'' tk' hns hk'' => ?_
    rw [List.filter_eq_self.mpr (fun _ _ => rfl), hsz] at hPr
    obtain ⟨l', rfl, hl'⟩ := strs_of_paired hPr
    have fb : Fb h₀.objs.size s.heap h'' := fun b o b1 e => hk'' b o b1 (Nat.ne_of_lt (Nat.lt_succ_of_lt (Heap.lt_size (hk₁ b o e)))) (off b o e)
    have hD := list_ns hP.isList hL'
    exact next h'' tk' _ (X.step hL fb) (RowsAt.step ⟨ys, hys, hyl, hyr⟩ hL fb) ⟨l', hP.isList.at fun o e => hk'' _ o hD (Nat.ne_of_lt (Nat.lt_succ_self _)) e, hl'⟩ hns
end
end Mine
end

section
open PySem PySem.W PyProof.Rows PySem.Calls
namespace Mine

theorem strs_get {l : List (Str × Tok)} {i : Nat} {v : Value} (h : (strValues l)[i]? = some v) : ∃ p, l[i]? = some p ∧ v = .str p.1 p.2 := by
  rw [strValues, List.getElem?_map] at h
  cases hq : l[i]? with
  | none => rw [hq] at h; cases h
  | some pp => rw [hq] at h; exact ⟨pp, rfl, (Option.some.inj h).symm⟩
theorem strs_at_range {l : List (Str × Tok)} {f : Nat → Str} {n i : Nat} {v : Value} (hl : l.map (·.1) = (List.range n).map f) (h : (strValues l)[i]? = some v) : ∃ t, v = .str (f i) t := by
  obtain ⟨p, hp, rfl⟩ := strs_get h
  refine ⟨p.2, ?_⟩
  have e := congrArg (fun z => z[i]?) hl
  have hin : i < n := by
    have := (List.getElem?_eq_some_iff.mp hp).1
    have h2 : l.length = n := by simpa using congrArg List.length hl
    omega
  simp only [List.getElem?_map, hp, Option.map_some, List.getElem?_range hin] at e
  rw [Option.some.inj e]
theorem strs_len {l : List (Str × Tok)} {f : Nat → Str} {n : Nat} (hl : l.map (·.1) = (List.range n).map f) : (strValues l).toArray.size = n := by
  have : l.length = n := by simpa using congrArg List.length hl
  simpa [strValues] using this

section
variable {w : World} {A : Around} {E : Value → Shared → Prop} {s : Shared} {mg mb : Str → Option Value}

set_option maxRecDepth 20000 in
set_option maxHeartbeats 4000000 in
theorem stageB3 {l pc rw tx : Addr} {cnt ld : Nat} {tc tl : Tok} {ps : List (Str × Tok)} {Q : Flow → Shared → Prop} {h₀ : Heap} {m : Str → Option Value} (W : Wd w mg mb h₀) (hh : A.handled = none)
    (hcnt : cnt = 4 ∨ cnt = 5) (hld : ld < 3) (hps : ∀ p ∈ ps, p.1.length ≤ 10) (X : LawSt h₀ l pc cnt ld tc tl ps s.heap) (hL : s.heap.Ns h₀.objs.size m) (hR : RowsAt rw cnt s.heap) (hm1 : m (Str.ofString "rows") = some (.ref rw))
    (hT : StrsAt tx ((List.range (2 ^ cnt)).map fun i => textOf (rowOf i cnt) (ps.map (·.1))) s.heap) (hm2 : m (Str.ofString "texts") = some (.ref tx))
    (next : ∀ h tk fd, LawSt h₀ l pc cnt ld tc tl ps h → RowsAt rw cnt h → StrsAt tx ((List.range (2 ^ cnt)).map fun i => textOf (rowOf i cnt) (ps.map (·.1))) h →
      StrsAt fd ((List.range (2 ^ cnt)).map fun i => fieldS ld cnt (rowOf i cnt) (textOf (rowOf i cnt) (ps.map (·.1)))) h → h.Ns h₀.objs.size (fun z => if z = Str.ofString "fields" then some (.ref fd) else m z) →
      wpAny (model pr w) A (execs ((lawBody w.params).drop 7) (lawEnv w.params h₀.objs.size)) Q E { s with heap := h, toks := tk }) :
    wpAny (model pr w) A (execs ((lawBody w.params).drop 6) (lawEnv w.params h₀.objs.size)) Q E s := by
  have hmz : mg (Str.ofString "zip") = none := mg_none_of W.K W.g (by with_unfolding_all rfl)
  have hms : mg (Str.ofString "sum") = none := mg_none_of W.K W.g (by with_unfolding_all rfl)
  obtain ⟨ys, hys, hyl, hyr⟩ := id hR
  obtain ⟨ts, hts, htl⟩ := id hT
  have hN : 2 ^ cnt ≤ 1000 := by rcases hcnt with rfl | rfl <;> decide
  show wpAny _ _ (execs (_ :: (lawBody w.params).drop 7) _) _ _ _
  refine wpAny_execs_cons (comp_assign rfl rfl rfl (by decide) (Call_ (Name_function_global rfl rfl (loadGlobal_builtin (W.g.keeps X.kp) hmz (W.b.keeps X.kp) ((W.bb _ (by decide)).trans boot_zip) ?_))))
  refine PyProof.Rows.callWith_type1 (args_cons (wpAny_Name (wpAny_loadName_local rfl rfl hL hm1 (args_cons (wpAny_Name (wpAny_loadName_local rfl rfl hL hm2 (args_nil ?_)))))))
  refine zip_it hh hys hts fun h₁ z fp wr St Mid hk₁ hz WT hst hfp hwr => ?_
  dsimp only at hk₁ hz hwr ⊢
  have hsz : min ys.toArray.size (strValues ts).toArray.size = 2 ^ cnt := by
    rw [strs_len htl]; simp [hyl]
  refine comp_block (n := min ys.toArray.size (strValues ts).toArray.size) (feeds_two hh WT (fun i vals ⟨x, y, _, _, e⟩ => ⟨x, y, e⟩) rfl rfl (by decide) rfl) (fun _ => true)
    (fun i y _ => ∃ t, y = .str (fieldS ld cnt (rowOf i cnt) (textOf (rowOf i cnt) (ps.map (·.1)))) t) (by decide) rfl hst hfp (fun _ _ _ _ q _ => q) ?_ ?_ (by rw [hsz]; exact hN) ?_
  · intro i h tk m₂ E' hi hb hn' hk
    exact wpAny_tests_nil ⟨rfl, h, tk, rfl, fun _ _ e => e⟩
  · rintro i h tk m₂ E' hi - ⟨u, v, ⟨x, y, hx, hy, e⟩, hmu, hmv⟩ hn' hk
    simp only [Array.mk.injEq, List.cons.injEq, and_true] at e
    obtain ⟨rfl, rfl⟩ := e
    rw [hsz] at hi
    have off : Kp s.heap h := fun b o e => hk b o (fun q => absurd (Heap.lt_size e) (Nat.not_lt.mpr (hwr b q))) (hk₁ b o e)
    have kp0 : Kp h₀ h := fun b o e => off b o (X.kp b o e)
    obtain ⟨a, vs, e1, e2, e3⟩ := hyr i hi
    have : u = .ref a := by
      have hv' : ys[i]? = some u := by simpa using hx
      rw [e1] at hv'; exact (Option.some.inj hv').symm
    subst this
    obtain ⟨tt, rfl⟩ := strs_at_range htl (by simpa using hy)
    have hlen : (textOf (rowOf i cnt) (ps.map (·.1))).length ≤ 110 := text_len (by rw [row_len]; omega) (fun p hp => by
      obtain ⟨q, hq, rfl⟩ := List.mem_map.mp hp
      exact hps q hq)
    have hsum := row_sum i cnt
    have c2 := X.c2.keeps off
    have c5 := X.c5.keeps off
    refine wpAny_BinOp (wpAny_BinOp (wpAny_BinOp (wpAny_Constant_str (wpAny_Name (wpAny_loadName_cell rfl rfl rfl c5 (mul_par rfl (by omega) (by omega) fun t₁ k₁ => ?_))))))
    have m1 : (Txt.mul (Str.ofString "(") (ld : Int)).length ≤ 2 := by
      rw [len_list', mul_list opn, List.length_replicate, Int.toNat_natCast]; omega
    refine wpAny_Name (wpAny_loadName_local rfl rfl hn' hmv (PyProof.Rows.add_str (fun t₂ k₂ => ?_) (by rw [sizeLine_eq]; omega)))
    refine wpAny_BinOp (wpAny_Constant_str (wpAny_BinOp (wpAny_BinOp (wpAny_Name (wpAny_loadName_cell rfl rfl rfl c5 (wpAny_Name (wpAny_loadName_cell rfl rfl rfl c2 (PyProof.Rows.add_int ?_))))))))
    refine wpAny_BinOp (wpAny_Constant_int (Call_ (Name_function_global rfl rfl (loadGlobal_builtin (W.g.keeps kp0) hms (W.b.keeps kp0) ((W.bb _ (by decide)).trans boot_sum) ?_))))
    refine PyProof.Rows.callWith_builtin1 (args_cons (wpAny_Name (wpAny_loadName_local rfl rfl hn' hmu (args_nil (sum_ok hh (e2.at fun o e => off _ o e) e3 fun h₅ tk₅ t₅ hk₅ => ?_)))))
    dsimp only at hk₅ ⊢
    refine PyProof.Rows.mul_int (PyProof.Rows.sub_int (mul_par rfl (by omega) (by omega) fun t₆ k₆ => ?_))
    have m2 : (Txt.mul (Str.ofString ")") ((ld : Int) + (cnt : Int) - 2 * (rowOf i cnt).sum)).length ≤ 10 := by
      rw [len_list', mul_list cls, List.length_replicate]; omega
    have m3 : (Txt.mul (Str.ofString "(") (ld : Int) ++ textOf (rowOf i cnt) (ps.map (·.1))).length ≤ 112 := by
      rw [len_list']
      show ((Txt.mul _ _).cps ++ _).toList.length ≤ _
      rw [Array.toList_append, List.length_append]
      rw [len_list'] at m1 hlen
      omega
    refine PyProof.Rows.add_str (fun t₇ k₇ => ⟨⟨t₇, rfl⟩, h₅, _, rfl, hk₅⟩) (by rw [sizeLine_eq]; omega)
  · intro h' tk m' ys' hn' hP hPr hk
    have off : Kp s.heap h' := fun b o e => hk b o (fun q => absurd (Heap.lt_size e) (Nat.not_lt.mpr (hwr b q))) (hk₁ b o e)
    have hL' := hL.keeps off
    have hLC : h₀.objs.size ≠ h₁.objs.size + 1 := Nat.ne_of_lt (Nat.lt_succ_of_lt (hL.keeps hk₁).lt)
    dsimp only
    refine post_store (y := Str.ofString "fields") (env := lawEnv w.params h₀.objs.size) hn' hL' hLC rfl rfl fun h'' tk' hns hk'' => ?_
    rw [List.filter_eq_self.mpr (fun _ _ => rfl), hsz] at hPr
    obtain ⟨l', rfl, hl'⟩ := strs_of_paired hPr
    have fb : Fb h₀.objs.size s.heap h'' := fun b o b1 e => hk'' b o b1 (Nat.ne_of_lt (Nat.lt_succ_of_lt (Heap.lt_size (hk₁ b o e)))) (off b o e)
    have hD := list_ns hP.isList hL'
    exact next h'' tk' _ (X.step hL fb) (hR.step hL fb) (hT.step hL fb) ⟨l', hP.isList.at fun o e => hk'' _ o hD (Nat.ne_of_lt (Nat.lt_succ_self _)) e, hl'⟩ hns
end
end Mine
end

section
open PySem PySem.W PyProof.Rows PySem.Calls
namespace Mine

/-- the texts and the fields -/
def txt (cnt : Nat) (qs : List Str) (i : Nat) : Str := textOf (rowOf i cnt) qs
def fld (ld cnt : Nat) (qs : List Str) (i : Nat) : Str := fieldS ld cnt (rowOf i cnt) (txt cnt qs i)

structure LawPk (h₀ : Heap) (l pc : Addr) (cnt ld : Nat) (tc tl : Tok) (ps : List (Str × Tok)) (rw tx fd : Addr) (h : Heap) : Prop where
  X : LawSt h₀ l pc cnt ld tc tl ps h
  R : RowsAt rw cnt h
  T : StrsAt tx ((List.range (2 ^ cnt)).map (txt cnt (ps.map (·.1)))) h
  D : StrsAt fd ((List.range (2 ^ cnt)).map (fld ld cnt (ps.map (·.1)))) h
theorem LawPk.step {h₀ h h' : Heap} {l pc rw tx fd : Addr} {cnt ld : Nat} {tc tl : Tok} {ps : List (Str × Tok)} {m : Str → Option Value} (P : LawPk h₀ l pc cnt ld tc tl ps rw tx fd h) (hn : h.Ns h₀.objs.size m) (k : Fb h₀.objs.size h h') :
    LawPk h₀ l pc cnt ld tc tl ps rw tx fd h' := ⟨P.X.step hn k, P.R.step hn k, P.T.step hn k, P.D.step hn k⟩
theorem LawPk.keeps {h₀ h h' : Heap} {l pc rw tx fd : Addr} {cnt ld : Nat} {tc tl : Tok} {ps : List (Str × Tok)} (P : LawPk h₀ l pc cnt ld tc tl ps rw tx fd h) (k : Kp h h') :
    LawPk h₀ l pc cnt ld tc tl ps rw tx fd h' := ⟨P.X.keeps k, P.R.keeps k, P.T.keeps k, P.D.keeps k⟩

theorem field_len {ld cnt : Nat} {qs : List Str} (hcnt : cnt = 4 ∨ cnt = 5) (hld : ld < 3) (hqs : ∀ q ∈ qs, q.length ≤ 10) (i : Nat) : (fld ld cnt qs i).length ≤ 200 := by
  have hlen : (txt cnt qs i).length ≤ 110 := text_len (by rw [row_len]; omega) hqs
  have hsum := row_sum i cnt
  rw [len_list'] at hlen
  rw [len_list', fld, field_list, List.length_append, List.length_append, List.length_replicate, List.length_replicate]
  omega

theorem pre_or {x : Str} (h : (preS x == badS) = false) : preS x = x := by
  unfold preS at h ⊢
  split at h
  · rw [if_pos (by assumption)]
  · simp at h

section
variable {w : World} {A : Around} {E : Value → Shared → Prop} {s : Shared} {mg mb : Str → Option Value}

set_option maxRecDepth 20000 in
set_option maxHeartbeats 4000000 in
theorem stageC1 {l pc rw tx fd : Addr} {cnt ld : Nat} {tc tl : Tok} {ps : List (Str × Tok)} {Q : Flow → Shared → Prop} {h₀ : Heap} {m : Str → Option Value} (W : Wd w mg mb h₀) (hh : A.handled = none) (hroom : A.depth + 3 < recursionLimit) (hB : AllBare s.gens)
    (hcnt : cnt = 4 ∨ cnt = 5) (hld : ld < 3) (hps : ∀ q ∈ ps.map (·.1), q.length ≤ 10) (P : LawPk h₀ l pc cnt ld tc tl ps rw tx fd s.heap) (hL : s.heap.Ns h₀.objs.size m) (hm3 : m (Str.ofString "fields") = some (.ref fd))
    (next : ∀ h tk G td, AllBare G → LawPk h₀ l pc cnt ld tc tl ps rw tx fd h → StrsAt td ((List.range (2 ^ cnt)).map fun i => preS (fld ld cnt (ps.map (·.1)) i)) h → h.Ns h₀.objs.size (fun z => if z = Str.ofString "told" then some (.ref td) else m z) →
      wpAny (model pr w) A (execs ((lawBody w.params).drop 8) (lawEnv w.params h₀.objs.size)) Q E { s with heap := h, toks := tk, gens := G }) :
    wpAny (model pr w) A (execs ((lawBody w.params).drop 7) (lawEnv w.params h₀.objs.size)) Q E s := by
  have hmp : mg (Str.ofString "_pre_parse_validation") = some (.ref 42) := mg_of W.K W.g (by with_unfolding_all rfl)
  obtain ⟨fs, hfs, hfl⟩ := id P.D
  have hN : 2 ^ cnt ≤ 1000 := by rcases hcnt with rfl | rfl <;> decide
  have kp0 := P.X.kp
  have hlf : fs.length = 2 ^ cnt := by simpa using congrArg List.length hfl
  have hlens : ∀ p ∈ fs, p.1.length ≤ 1000 := by
    intro p hp
    have : p.1 ∈ fs.map (·.1) := List.mem_map_of_mem hp
    rw [hfl] at this
    obtain ⟨i, _, hi⟩ := List.mem_map.mp this
    rw [← hi]
    exact Nat.le_trans (field_len hcnt hld hps i) (by decide)
  show wpAny _ _ (execs (_ :: (lawBody w.params).drop 8) _) _ _ _
  refine wpAny_execs_cons (wpAny_Assign_Name (Call_ (Name_function_global rfl rfl (loadGlobal_global (W.g.keeps kp0) hmp ?_))) ?hs)
  case hs => rfl
  refine callWith_K W.K (by with_unfolding_all rfl) (args_cons (wpAny_Name (wpAny_loadName_local rfl rfl hL hm3 (args_nil ⟨W.K.keeps kp0, ?_⟩))))
  refine pre_ok (W.keeps kp0) hh hroom hB hfs hlens (by omega) fun h₁ tk₁ G r ls' hk₁ hG hr hP hls => ?_
  dsimp only at hk₁ hr ⊢
  have hL₁ := hL.keeps hk₁
  refine wpAny_storeName_local rfl hL₁ (fun h₂ hn₂ hs₂ => ?_) rfl
  have fb : Fb h₀.objs.size h₁ h₂ := fun b o b1 e => hs₂.extBut b o b1 e
  refine next h₂ _ G r hG ((P.keeps hk₁).step hL₁ fb) (StrsAt.step ⟨ls', hP.isList, ?_⟩ hL₁ fb) hn₂
  rw [hls, show fs.map (fun p => preS p.1) = (fs.map (·.1)).map preS from by simp, hfl]
  simp

set_option maxRecDepth 20000 in
set_option maxHeartbeats 4000000 in
theorem stageC2 {l pc rw tx fd td : Addr} {cnt ld : Nat} {tc tl : Tok} {ps : List (Str × Tok)} {Q : Flow → Shared → Prop} {h₀ : Heap} {m : Str → Option Value} (W : Wd w mg mb h₀) (hh : A.handled = none) (hu : A.units < cLine)
    (hcnt : cnt = 4 ∨ cnt = 5) (P : LawPk h₀ l pc cnt ld tc tl ps rw tx fd s.heap) (hT : StrsAt td ((List.range (2 ^ cnt)).map fun i => preS (fld ld cnt (ps.map (·.1)) i)) s.heap) (hL : s.heap.Ns h₀.objs.size m)
    (hm3 : m (Str.ofString "fields") = some (.ref fd)) (hm4 : m (Str.ofString "told") = some (.ref td))
    (next : ∀ h tk, Kp s.heap h → wpAny (model pr w) A (execs ((lawBody w.params).drop 9) (lawEnv w.params h₀.objs.size)) Q E { s with heap := h, toks := tk }) :
    wpAny (model pr w) A (execs ((lawBody w.params).drop 8) (lawEnv w.params h₀.objs.size)) Q E s := by
  have hmz : mg (Str.ofString "zip") = none := mg_none_of W.K W.g (by with_unfolding_all rfl)
  obtain ⟨fs, hfs, hfl⟩ := id P.D
  obtain ⟨ds, hds, hdl⟩ := id hT
  have hN : 2 ^ cnt ≤ 1000 := by rcases hcnt with rfl | rfl <;> decide
  have kp0 := P.X.kp
  show wpAny _ _ (execs (_ :: (lawBody w.params).drop 9) _) _ _ _
  refine wpAny_execs_cons (wpAny_If (wpAny_isTrue_Compare1 (comp_eval rfl rfl (by decide) (Call_ (Name_function_global rfl rfl (loadGlobal_builtin (W.g.keeps kp0) hmz (W.b.keeps kp0) ((W.bb _ (by decide)).trans boot_zip) ?_))))))
  refine PyProof.Rows.callWith_type1 (args_cons (wpAny_Name (wpAny_loadName_local rfl rfl hL hm3 (args_cons (wpAny_Name (wpAny_loadName_local rfl rfl hL hm4 (args_nil ?_)))))))
  refine zip_it hh hfs hds fun h₁ z fp wr St Mid hk₁ hz WT hst hfp hwr => ?_
  skip
  have hsz : min (strValues fs).toArray.size (strValues ds).toArray.size = 2 ^ cnt := by
    rw [strs_len hfl, strs_len hdl]; exact Nat.min_self _
  refine comp_block (n := min (strValues fs).toArray.size (strValues ds).toArray.size) (feeds_two hh WT (fun i vals ⟨x, y, _, _, e⟩ => ⟨x, y, e⟩) rfl rfl (by decide) rfl) (fun _ => true)
    (fun i y _ => ∃ t, y = .str (preS (fld ld cnt (ps.map (·.1)) i)) t) (by decide) rfl hst hfp (fun _ _ _ _ q _ => q) ?_ ?_ (by rw [hsz]; exact hN) ?_
  · intro i h tk m₂ E' hi hb hn' hk
    exact wpAny_tests_nil ⟨rfl, h, tk, rfl, fun _ _ e => e⟩
  · rintro i h tk m₂ E' hi - ⟨u, v, ⟨x, y, hx, hy, e⟩, hmu, hmv⟩ hn' hk
    simp only [Array.mk.injEq, List.cons.injEq, and_true] at e
    obtain ⟨rfl, rfl⟩ := e
    obtain ⟨t1, rfl⟩ := strs_at_range hfl (by simpa using hx)
    obtain ⟨t2, rfl⟩ := strs_at_range hdl (by simpa using hy)
    refine wpAny_IfExp (wpAny_isTrue_Compare1 (wpAny_Name (wpAny_loadName_local rfl rfl hn' hmv (wpAny_Constant_str (PyProof.Rows.eq_str (wpAny_truthy_bool (ifb (fun hb => ?_) (fun hb => ?_))))))))
    · exact wpAny_Name (wpAny_loadName_local rfl rfl hn' hmv ⟨⟨_, rfl⟩, h, _, rfl, fun _ _ e => e⟩)
    · have e := pre_or hb
      exact wpAny_Name (wpAny_loadName_local rfl rfl hn' hmu ⟨⟨_, congrArg (fun z => Value.str z _) e.symm⟩, h, _, rfl, fun _ _ e => e⟩)
  · intro h' tk m' ys' hn' hP hPr hk
    have off : Kp s.heap h' := fun b o e => hk b o (fun q => absurd (Heap.lt_size e) (Nat.not_lt.mpr (hwr b q))) (hk₁ b o e)
    dsimp only
    refine post_eval hn' fun h'' hs'' => ?_
    have off2 : Kp s.heap h'' := fun b o e => hs''.extBut b o (Nat.ne_of_lt (Nat.lt_succ_of_lt (Heap.lt_size (hk₁ b o e)))) (off b o e)
    have hP'' := hP.extBut hs''.extBut (Nat.ne_of_lt (Nat.lt_succ_self _))
    rw [List.filter_eq_self.mpr (fun _ _ => rfl), hsz] at hPr
    obtain ⟨l', rfl, hl'⟩ := strs_of_paired hPr
    refine wpAny_Name (wpAny_loadName_local rfl rfl (hL.keeps off2) hm4 (ne_strs hP''.isList (hds.at fun o e => off2 _ o e) (hl'.trans hdl.symm) hu (wpAny_truthy_bool (ifb (fun hb => nomatch hb) (fun _ => ?_)))))
    exact wpAny_execs_nil (next h'' _ off2)
end
end Mine
end

section
open PySem PySem.W PyProof.Rows PySem.Calls
namespace Mine

/-- the places of the kept fields, and their texts -/
def kept (ld cnt : Nat) (qs : List Str) : List Nat := (List.range (2 ^ cnt)).filter fun i => preS (fld ld cnt qs i) == fld ld cnt qs i
def takenS (ld cnt : Nat) (qs : List Str) : List Str := (kept ld cnt qs).map (txt cnt qs)

section
variable {w : World} {A : Around} {E : Value → Shared → Prop} {s : Shared} {mg mb : Str → Option Value}

set_option maxRecDepth 20000 in
set_option maxHeartbeats 4000000 in
theorem stageC3 {l pc rw tx fd td : Addr} {cnt ld : Nat} {tc tl : Tok} {ps : List (Str × Tok)} {Q : Flow → Shared → Prop} {h₀ : Heap} {m : Str → Option Value} (W : Wd w mg mb h₀) (hh : A.handled = none)
    (hcnt : cnt = 4 ∨ cnt = 5) (P : LawPk h₀ l pc cnt ld tc tl ps rw tx fd s.heap) (hT : StrsAt td ((List.range (2 ^ cnt)).map fun i => preS (fld ld cnt (ps.map (·.1)) i)) s.heap) (hL : s.heap.Ns h₀.objs.size m)
    (hm2 : m (Str.ofString "texts") = some (.ref tx)) (hm3 : m (Str.ofString "fields") = some (.ref fd)) (hm4 : m (Str.ofString "told") = some (.ref td))
    (next : ∀ h tk tn, LawPk h₀ l pc cnt ld tc tl ps rw tx fd h → StrsAt td ((List.range (2 ^ cnt)).map fun i => preS (fld ld cnt (ps.map (·.1)) i)) h → StrsAt tn (takenS ld cnt (ps.map (·.1))) h → h.Ns h₀.objs.size (fun z => if z = Str.ofString "taken" then some (.ref tn) else m z) →
      wpAny (model pr w) A (execs ((lawBody w.params).drop 10) (lawEnv w.params h₀.objs.size)) Q E { s with heap := h, toks := tk }) :
    wpAny (model pr w) A (execs ((lawBody w.params).drop 9) (lawEnv w.params h₀.objs.size)) Q E s := by
  have hmz : mg (Str.ofString "zip") = none := mg_none_of W.K W.g (by with_unfolding_all rfl)
  obtain ⟨ts, hts, htl⟩ := id P.T
  obtain ⟨fs, hfs, hfl⟩ := id P.D
  obtain ⟨ds, hds, hdl⟩ := id hT
  have hN : 2 ^ cnt ≤ 1000 := by rcases hcnt with rfl | rfl <;> decide
  have kp0 := P.X.kp
  show wpAny _ _ (execs (_ :: (lawBody w.params).drop 10) _) _ _ _
  refine wpAny_execs_cons (comp_assign rfl rfl rfl (by decide) (Call_ (Name_function_global rfl rfl (loadGlobal_builtin (W.g.keeps kp0) hmz (W.b.keeps kp0) ((W.bb _ (by decide)).trans boot_zip) ?_))))
  refine PyProof.Rows.callWith_type1 (args_cons (wpAny_Name (wpAny_loadName_local rfl rfl hL hm2 (args_cons (wpAny_Name (wpAny_loadName_local rfl rfl hL hm3 (args_cons (wpAny_Name (wpAny_loadName_local rfl rfl hL hm4 (args_nil ?_))))))))))
  have hsz : (strValues ts).toArray.size = 2 ^ cnt := strs_len htl
  refine zip3_it hh hts hfs hds ((strs_len hfl).trans hsz.symm) ((strs_len hdl).trans hsz.symm) fun h₁ z fp wr St Mid hk₁ hz WT hst hfp hwr => ?_
  refine comp_block (n := (strValues ts).toArray.size) (feeds_three hh WT (fun i vals ⟨x, y, u, _, _, _, e⟩ => ⟨x, y, u, e⟩) rfl rfl rfl (by decide) (by decide) (by decide) rfl) (fun i => preS (fld ld cnt (ps.map (·.1)) i) == fld ld cnt (ps.map (·.1)) i)
    (fun i y _ => ∃ t, y = .str (txt cnt (ps.map (·.1)) i) t) (by decide) rfl hst hfp (fun _ _ _ _ q _ => q) ?_ ?_ (by rw [hsz]; exact hN) ?_
  · rintro i h tk m₂ E' hi ⟨u, v, t, ⟨x, y, q, hx, hy, hq, e⟩, hmu, hmv, hmt⟩ hn' hk
    simp only [Array.mk.injEq, List.cons.injEq, and_true] at e
    obtain ⟨rfl, rfl, rfl⟩ := e
    obtain ⟨t2, rfl⟩ := strs_at_range hfl (by simpa using hy)
    obtain ⟨t3, rfl⟩ := strs_at_range hdl (by simpa using hq)
    exact wpAny_tests_one (wpAny_isTrue_Compare1 (wpAny_Name (wpAny_loadName_local rfl rfl hn' hmt (wpAny_Name (wpAny_loadName_local rfl rfl hn' hmv (PyProof.Rows.eq_str (wpAny_truthy_bool ⟨rfl, h, _, rfl, fun _ _ e => e⟩)))))))
  · rintro i h tk m₂ E' hi - ⟨u, v, t, ⟨x, y, q, hx, hy, hq, e⟩, hmu, hmv, hmt⟩ hn' hk
    simp only [Array.mk.injEq, List.cons.injEq, and_true] at e
    obtain ⟨rfl, rfl, rfl⟩ := e
    obtain ⟨t1, rfl⟩ := strs_at_range htl (by simpa using hx)
    exact wpAny_Name (wpAny_loadName_local rfl rfl hn' hmu ⟨⟨_, rfl⟩, h, _, rfl, fun _ _ e => e⟩)
  · intro h' tk m' ys' hn' hP hPr hk
    have off : Kp s.heap h' := fun b o e => hk b o (fun q => absurd (Heap.lt_size e) (Nat.not_lt.mpr (hwr b q))) (hk₁ b o e)
    have hL' := hL.keeps off
    have hLC : h₀.objs.size ≠ h₁.objs.size + 1 := Nat.ne_of_lt (Nat.lt_succ_of_lt (hL.keeps hk₁).lt)
    dsimp only
    refine post_store (y := Str.ofString "taken") (env := lawEnv w.params h₀.objs.size) hn' hL' hLC rfl rfl fun h'' tk' hns hk'' => ?_
    rw [hsz] at hPr
    obtain ⟨l', rfl, hl'⟩ := strs_of_paired hPr
    have fb : Fb h₀.objs.size s.heap h'' := fun b o b1 e => hk'' b o b1 (Nat.ne_of_lt (Nat.lt_succ_of_lt (Heap.lt_size (hk₁ b o e)))) (off b o e)
    have hD := list_ns hP.isList hL'
    exact next h'' tk' _ (P.step hL fb) (hT.step hL fb) ⟨l', hP.isList.at fun o e => hk'' _ o hD (Nat.ne_of_lt (Nat.lt_succ_self _)) e, hl'⟩ hns
end
end Mine
end

section
open PySem PySem.W PyProof.Rows PySem.Calls
namespace Mine

section
variable {w : World} {A : Around} {E : Value → Shared → Prop} {s : Shared} {mg mb : Str → Option Value}

theorem for_one {env : Env} {x : Str} {px : Pos} {body : List Stmt} {R : Result → Shared → Prop} {I : Addr} {fp wr : List Addr} {n : Nat} {P : Nat → Value → Prop} {St : Nat → Heap → Prop} {m : Str → Option Value}
    (W : Walks pr w A I fp wr n P St) (hx : env.kindOf x = some .local)
    (hp : (env.scope.kind == .class || (env.scope.kind == .module && env.locals != env.globals)) = false) (hLf : env.locals ∉ fp) (hst : St 0 s.heap) (hn : s.heap.Ns env.locals m)
    (J : Nat → (Str → Option Value) → Heap → Prop) (hJ : ∀ i m h h', J i m h → (∀ b o, b ∉ wr → b ≠ env.locals → h.get? b = some o → h'.get? b = some o) → J i m h') (h0 : J 0 m s.heap)
    (step : ∀ i v m₁ h tk, i < n → P i v → J i m₁ h → h.Ns env.locals (fun y => if y = x then some v else m₁ y) →
      wpAny (model pr w) A (execs body env) (fun f s₂ => match f with
        | .next | .cont => ∃ h₂ tk₂ m₂, s₂ = { s with heap := h₂, toks := tk₂ } ∧ h₂.Ns env.locals m₂ ∧ (∀ b ∈ fp, ∀ o, h.get? b = some o → h₂.get? b = some o) ∧ J (i + 1) m₂ h₂
        | .brk => R (.ok .next) s₂
        | .ret v => R (.ok (.ret v)) s₂) (notedBy (model pr w) A env fun e s' => R (.error e) s') { s with heap := h, toks := tk })
    (done : ∀ m₁ h tk, J n m₁ h → h.Ns env.locals m₁ → R (.ok .next) { s with heap := h, toks := tk }) :
    codeAny (model pr w) A (.forLoop (.Name x px) (.ref I) body [] env) R s := by
  have hLw : env.locals ∉ wr := fun q => hLf (W.sub _ q)
  refine codeAny_forLoop_any (I := fun k s' => ∃ i h tk m₁, s' = { s with heap := h, toks := tk } ∧ k = n + 1 - i ∧ i ≤ n ∧ St i h ∧ h.Ns env.locals m₁ ∧ J i m₁ h) ?_ (n + 1) ⟨0, _, _, m, rfl, rfl, Nat.zero_le _, hst, hn, h0⟩
  rintro k s' ⟨i, h, tk, m₁, rfl, rfl, hi, hst', hn', hJ'⟩
  by_cases hlt : i < n
  · refine W.item i _ _ _ hlt hst' fun v h₁ tk₁ hP hst₁ hk₁ => ?_
    refine wpAny_of_eq (rfl : letOwnedTupleGo (.Name x px) (.ref I) v = pure ()) ?_
    dsimp only at hk₁ ⊢
    refine wpAny_assign_Name (wpAny_storeName_local hx (hn'.at' fun o e => hk₁ _ o hLw e) (fun h₅ hn₅ hs₅ => ?_) hp)
    dsimp only at hs₅ hn₅ ⊢
    have hst₅ : St (i + 1) h₅ := W.frame _ _ _ hst₁ fun b hb o e => hs₅.extBut b o (fun q => hLf (q ▸ hb)) e
    refine wpAny_mono (step i v m₁ h₅ _ hlt hP (hJ _ _ _ _ hJ' fun b o b1 b2 e => hs₅.extBut b o b2 (hk₁ b o b1 e)) hn₅) (fun f s₂ hf => ?_) fun _ _ e => e
    have fin : (∃ h₂ tk₂ m₂, s₂ = { s with heap := h₂, toks := tk₂ } ∧ h₂.Ns env.locals m₂ ∧ (∀ b ∈ fp, ∀ o, h₅.get? b = some o → h₂.get? b = some o) ∧ J (i + 1) m₂ h₂) →
        ∃ k', k' < n + 1 - i ∧ ∃ i' h tk m₁, s₂ = { s with heap := h, toks := tk } ∧ k' = n + 1 - i' ∧ i' ≤ n ∧ St i' h ∧ h.Ns env.locals m₁ ∧ J i' m₁ h := by
      rintro ⟨h₆, tk₆, m₆, rfl, q1, q2, q3⟩
      exact ⟨n + 1 - (i + 1), by omega, i + 1, h₆, tk₆, m₆, rfl, rfl, hlt, W.frame _ _ _ hst₅ q2, q1, q3⟩
    cases f with
    | next => exact fin hf
    | cont => exact fin hf
    | brk => exact hf
    | ret v => exact hf
  · have hin : i = n := Nat.le_antisymm hi (Nat.not_lt.mp hlt)
    subst hin
    refine W.done _ _ _ hst' fun h₁ tk₁ hk₁ => wpAny_execs_nil ?_
    dsimp only at hk₁ ⊢
    exact done m₁ h₁ tk₁ (hJ _ _ _ _ hJ' fun b o b1 _ e => hk₁ b o b1 e) (hn'.at' fun o e => hk₁ _ o hLw e)

set_option maxRecDepth 20000 in
set_option maxHeartbeats 4000000 in
theorem stageD1 {l pc rw tx fd td tn : Addr} {cnt ld : Nat} {tc tl : Tok} {ps : List (Str × Tok)} {Q : Flow → Shared → Prop} {h₀ : Heap} {m : Str → Option Value} (W : Wd w mg mb h₀) (hh : A.handled = none) (hroom : A.depth < recursionLimit)
    (hcnt : cnt = 4 ∨ cnt = 5) (P : LawPk h₀ l pc cnt ld tc tl ps rw tx fd s.heap) (hT : StrsAt td ((List.range (2 ^ cnt)).map fun i => preS (fld ld cnt (ps.map (·.1)) i)) s.heap) (hK : StrsAt tn (takenS ld cnt (ps.map (·.1))) s.heap) (hL : s.heap.Ns h₀.objs.size m)
    (hm3 : m (Str.ofString "fields") = some (.ref fd)) (hm4 : m (Str.ofString "told") = some (.ref td)) (hm5 : m (Str.ofString "taken") = some (.ref tn)) (hP1 : ((takenS ld cnt (ps.map (·.1))).length : Int) = stayN cnt ld)
    (next : ∀ h tk, Kp s.heap h → wpAny (model pr w) A (execs ((lawBody w.params).drop 11) (lawEnv w.params h₀.objs.size)) Q E { s with heap := h, toks := tk }) :
    wpAny (model pr w) A (execs ((lawBody w.params).drop 10) (lawEnv w.params h₀.objs.size)) Q E s := by
  have hml : mg (Str.ofString "len") = none := mg_none_of W.K W.g (by with_unfolding_all rfl)
  have hms : mg (Str.ofString "_law_stay") = some (.ref 75) := mg_of W.K W.g (by with_unfolding_all rfl)
  obtain ⟨fs, hfs, hfl⟩ := id P.D
  obtain ⟨ds, hds, hdl⟩ := id hT
  obtain ⟨ks, hks, hkl⟩ := id hK
  have hN : 2 ^ cnt ≤ 1000 := by rcases hcnt with rfl | rfl <;> decide
  have kp0 := P.X.kp
  have hsf := strs_len hfl
  have hsd := strs_len hdl
  have hsk : (strValues ks).toArray.size = (takenS ld cnt (ps.map (·.1))).length := by rw [← hkl]; simp [strValues]
  have hkN : (takenS ld cnt (ps.map (·.1))).length ≤ 2 ^ cnt := by
    unfold takenS kept
    rw [List.length_map]
    exact Nat.le_trans (List.length_filter_le _ _) (by simp)
  show wpAny _ _ (execs (_ :: (lawBody w.params).drop 11) _) _ _ _
  refine wpAny_execs_cons (wpAny_If (isTrue_or (wpAny_isTrue_Compare1 (Call_ (Name_function_global rfl rfl (loadGlobal_builtin (W.g.keeps kp0) hml (W.b.keeps kp0) ((W.bb _ (by decide)).trans boot_len) ?_))))))
  refine PyProof.Rows.callWith_builtin1 (args_cons (wpAny_Name (wpAny_loadName_local rfl rfl hL hm4 (args_nil (PyProof.Rows.len_list hds (by omega) ?_)))))
  refine Call_ (Name_function_global rfl rfl (loadGlobal_builtin (W.g.keeps kp0) hml (W.b.keeps kp0) ((W.bb _ (by decide)).trans boot_len) ?_))
  refine PyProof.Rows.callWith_builtin1 (args_cons (wpAny_Name (wpAny_loadName_local rfl rfl hL hm3 (args_nil (PyProof.Rows.len_list hfs (by omega) ?_)))))
  refine PyProof.Rows.ne_int (wpAny_truthy_bool (ifb (fun hb => ?_) (fun _ => ?_)))
  · rw [hsf, hsd] at hb; simp at hb
  refine isTrue_or (wpAny_isTrue_Compare1 (Call_ (Name_function_global rfl rfl (loadGlobal_builtin (W.g.keeps kp0) hml (W.b.keeps kp0) ((W.bb _ (by decide)).trans boot_len) ?_))))
  refine PyProof.Rows.callWith_builtin1 (args_cons (wpAny_Name (wpAny_loadName_local rfl rfl hL hm5 (args_nil (PyProof.Rows.len_list hks (by omega) ?_)))))
  refine Call_ (Name_function_global rfl rfl (loadGlobal_global (W.g.keeps kp0) hms ?_))
  refine callWith_K W.K (by with_unfolding_all rfl) (args_cons (wpAny_Name (wpAny_loadName_cell rfl rfl rfl P.X.c2 (args_cons (wpAny_Name (wpAny_loadName_cell rfl rfl rfl P.X.c5 (args_nil ⟨W.K.keeps kp0, ?_⟩)))))))
  refine stay_ok (W.keeps kp0) hh hroom (by omega) fun h₁ tk₁ t₁ hk₁ => ?_
  dsimp only at hk₁ ⊢
  refine PyProof.Rows.ne_int (wpAny_truthy_bool (ifb (fun hb => ?_) (fun _ => ?_)))
  · rw [hsk, hP1] at hb; simp at hb
  exact isTrue_or_nil (wpAny_execs_nil (next h₁ _ hk₁))
end
end Mine
end

section
open PySem PySem.W PyProof.Rows PySem.Calls
namespace Mine

theorem strs_of_list {l : List (Str × Tok)} {xs : List Str} {i : Nat} {x : Str} (h : l.map (·.1) = xs) (hx : xs[i]? = some x) : ∃ t, (strValues l)[i]? = some (.str x t) := by
  subst h
  rw [List.getElem?_map] at hx
  cases hq : l[i]? with
  | none => rw [hq] at hx; cases hx
  | some p =>
    rw [hq] at hx
    refine ⟨p.2, ?_⟩
    rw [strValues, List.getElem?_map, hq]
    simp at hx ⊢
    exact hx

section
variable {w : World} {A : Around} {E : Value → Shared → Prop} {s : Shared} {mg mb : Str → Option Value}

set_option maxRecDepth 20000 in
set_option maxHeartbeats 4000000 in
theorem stageD2 {l pc rw tx fd tn : Addr} {cnt ld : Nat} {tc tl : Tok} {ps : List (Str × Tok)} {vs : List Value} {ns : List Int} {Q : Flow → Shared → Prop} {h₀ : Heap} {m : Str → Option Value} (W : Wd w mg mb h₀) (hh : A.handled = none) (hroom : A.depth + 1 < recursionLimit) (hu : A.units < cLine)
    (hl : h₀.IsList l vs.toArray) (hI : IntsAre vs ns) (hn : ns.length ≤ 63)
    (hcnt : cnt = 4 ∨ cnt = 5) (P : LawPk h₀ l pc cnt ld tc tl ps rw tx fd s.heap) (hK : StrsAt tn (takenS ld cnt (ps.map (·.1))) s.heap) (hL : s.heap.Ns h₀.objs.size m)
    (hm1 : m (Str.ofString "rows") = some (.ref rw)) (hm2 : m (Str.ofString "texts") = some (.ref tx)) (hm3 : m (Str.ofString "fields") = some (.ref fd)) (hm5 : m (Str.ofString "taken") = some (.ref tn))
    (hP2 : ∀ way, way < 2 ^ cnt → aheadN (rowOf way cnt) ld = ((bisL (takenS ld cnt (ps.map (·.1))) (txt cnt (ps.map (·.1)) way) : Int), (bisR (takenS ld cnt (ps.map (·.1))) (txt cnt (ps.map (·.1)) way) : Int)))
    (next : ∀ h tk m', LawPk h₀ l pc cnt ld tc tl ps rw tx fd h → h.Ns h₀.objs.size m' → m' (Str.ofString "fields") = some (.ref fd) → wpAny (model pr w) A (execs ((lawBody w.params).drop 12) (lawEnv w.params h₀.objs.size)) Q E { s with heap := h, toks := tk }) :
    wpAny (model pr w) A (execs ((lawBody w.params).drop 11) (lawEnv w.params h₀.objs.size)) Q E s := by
  have hml : mg (Str.ofString "len") = none := mg_none_of W.K W.g (by with_unfolding_all rfl)
  have hmbl : mg (Str.ofString "bisect_left") = some (.ref 60) := mg_of W.K W.g (by with_unfolding_all rfl)
  have hmbr : mg (Str.ofString "bisect_right") = some (.ref 51) := mg_of W.K W.g (by with_unfolding_all rfl)
  have hma : mg (Str.ofString "_law_ahead") = some (.ref 82) := mg_of W.K W.g (by with_unfolding_all rfl)
  have hN : 2 ^ cnt ≤ 1000 := by rcases hcnt with rfl | rfl <;> decide
  have hvl : vs.length = ns.length := by have := IntsAre.length hI; omega
  show wpAny _ _ (execs (_ :: (lawBody w.params).drop 12) _) _ _ _
  refine wpAny_execs_cons (wpAny_For (wpAny_BinOp (wpAny_List ?_)))
  refine itI ?_
  try dsimp only
  refine itI ?_
  try dsimp only
  refine itI ?_
  try dsimp only
  refine wpAny_items_nil ⟨by size_fits, ?_⟩
  try dsimp only
  have kp1 := kpPush s.heap (lo [.int 6 s.toks, .int 11 (s.toks + 1), .int 15 (s.toks + 1 + 1)])
  have l3 : (s.heap.push (lo [.int 6 s.toks, .int 11 (s.toks + 1), .int 15 (s.toks + 1 + 1)])).IsList s.heap.objs.size [.int 6 s.toks, .int 11 (s.toks + 1), .int 15 (s.toks + 1 + 1)].toArray := isList_lo (Heap.get?_push_size _ rfl)
  generalize s.heap.push (lo [.int 6 s.toks, .int 11 (s.toks + 1), .int 15 (s.toks + 1 + 1)]) = h₁ at kp1 l3 ⊢
  refine sliceU (wpAny_Name (wpAny_loadName_cell rfl rfl rfl (P.X.c1.keeps kp1) (wpAny_Constant_int ?_)))
  refine ⟨l, vs.toArray, _, _, rfl, rfl, hl.at fun o e => kp1 _ o (P.X.kp _ o e), by rw [List.size_toArray]; size_fits, fun h₂ a hk₂ ha hla => ?_⟩
  have hIt := hI.pick none (some 4) none
  have hItl := length_pickNums_le hI none (some 4) none
  have hws : (slicePick vs.toArray none (some 4) none).toList.length ≤ 63 := by rw [hIt.length]; omega
  generalize hW : (slicePick vs.toArray none (some 4) none).toList = ws at hIt hws
  have hla' : h₂.IsList a ws.toArray := by rw [← hW]; exact hla
  refine add_ints (l3.at fun o e => hk₂ _ o e) hla' (fun h₃ b hk₃ hb hlb => ?_) (by simp; size_fits)
  have hIall : IntsAre ([.int 6 s.toks, .int 11 (s.toks + 1), .int 15 (s.toks + 1 + 1)] ++ ws) ([6, 11, 15] ++ pickNums ns none (some 4) none) := (IntsAre.cons _ _ (.cons _ _ (.cons _ _ .nil))).append hIt
  generalize ([.int 6 s.toks, .int 11 (s.toks + 1), .int 15 (s.toks + 1 + 1)] : List Value) ++ ws = us at hlb hIall
  generalize ([6, 11, 15] : List Int) ++ pickNums ns none (some 4) none = ks at hIall
  have kp3 : Kp s.heap h₃ := fun b o e => hk₃ b o (hk₂ b o (kp1 b o e))
  dsimp only at hlb ⊢
  refine list_it hlb fun h₄ I hk₄ hI4 hI4' hit hli hne hlt => ?_
  dsimp only at hk₄ hI4 ⊢
  have kp4 : Kp s.heap h₄ := fun b o e => hk₄ b o (kp3 b o e)
  have hIge : s.heap.objs.size ≤ I := by
    rw [hI4]
    exact Nat.le_of_lt (Nat.lt_of_lt_of_le (Nat.lt_of_le_of_lt (Nat.le_refl _) (Heap.lt_size (hk₃ _ _ (hk₂ _ _ (l3.choose_spec.1))))) (Nat.le_refl _))
  have hIL : h₀.objs.size ≠ I := Nat.ne_of_lt (Nat.lt_of_lt_of_le hL.lt hIge)
  have hbL : h₀.objs.size ≠ b := Ne.symm (list_ns hlb (hL.keeps kp3))
  refine for_one (Walks.list hh I b hne us.toArray) rfl rfl (fun q => ?_) ⟨hit, hli⟩ (hL.keeps kp4)
    (J := fun i m' h => Fb h₀.objs.size s.heap h ∧ m' (Str.ofString "rows") = some (.ref rw) ∧ m' (Str.ofString "texts") = some (.ref tx) ∧ m' (Str.ofString "fields") = some (.ref fd) ∧ m' (Str.ofString "taken") = some (.ref tn)) ?_ ?_ ?_ ?_
  · rcases List.mem_cons.mp q with q | q
    · exact hIL q
    · exact hbL (List.mem_singleton.mp q)
  · rintro i m' h h' ⟨q1, q2⟩ hk
    exact ⟨fun b o b1 e => hk b o (fun q => by rw [List.mem_singleton.mp q] at e; exact absurd (Heap.lt_size e) (Nat.not_lt.mpr hIge)) b1 (q1 b o b1 e), q2⟩
  · exact ⟨fun b o _ e => kp4 b o e, hm1, hm2, hm3, hm5⟩
  · rintro i v m' h tk hi hv ⟨fb, a1, a2, a3, a5⟩ hn'
    obtain ⟨num, tn', rfl, hnum⟩ := IntsAre.at hIall i v (by simpa using hv)
    have P' := P.step hL fb
    have K' := hK.step hL fb
    have kp0 := P'.X.kp
    obtain ⟨ys, hys, hyl, hyr⟩ := id P'.R
    have hsy : ys.toArray.size = 2 ^ cnt := by simpa using hyl
    refine wpAny_execs_cons (wpAny_Assign_Name (wpAny_BinOp (wpAny_Name (wpAny_loadName_local rfl rfl hn' rfl (Call_ (Name_function_global rfl rfl (loadGlobal_builtin (W.g.keeps kp0) hml (W.b.keeps kp0) ((W.bb _ (by decide)).trans boot_len) ?_)))))) ?hs)
    case hs => rfl
    refine PyProof.Rows.callWith_builtin1 (args_cons (wpAny_Name (wpAny_loadName_local rfl rfl hn' a1 (args_nil (PyProof.Rows.len_list hys (by omega) (mod_int' ?_ ?_))))))
    · rw [hsy]; rcases hcnt with rfl | rfl <;> decide
    obtain ⟨way, hway, hwe⟩ := fmod_nat num (k := 2 ^ cnt) (by rcases hcnt with rfl | rfl <;> decide)
    rw [hsy, hwe]
    dsimp only
    refine wpAny_storeName_local rfl hn' (fun h₅ hn₅ hs₅ => ?_) rfl
    dsimp only at hn₅ hs₅ ⊢
    have fb5 : Fb h₀.objs.size h h₅ := fun b o b1 e => hs₅.extBut b o b1 e
    have P5 := P'.step hn' fb5
    have K5 := K'.step hn' fb5
    have kp5 := P5.X.kp
    obtain ⟨ts, hts, htl⟩ := id P5.T
    obtain ⟨ks', hks, hkl⟩ := id K5
    obtain ⟨ys', hys', hyl', hyr'⟩ := id P5.R
    obtain ⟨tt, htt⟩ := strs_of_list (i := way) (x := txt cnt (ps.map (·.1)) way) htl (by simp [hway])
    have hkn : ks'.length ≤ 1000 := by
      have e : ks'.length = (takenS ld cnt (ps.map (·.1))).length := by rw [← hkl]; simp
      rw [e]
      unfold takenS kept
      rw [List.length_map]
      exact Nat.le_trans (List.length_filter_le _ _) (by simpa using hN)
    have hwp := hP2 way hway
    rw [← hkl] at hwp
    refine wpAny_execs_cons (wpAny_If (wpAny_isTrue_Compare1 (wpAny_Tuple (wpAny_items_cons (Call_ (Name_function_global rfl rfl (loadGlobal_global (W.g.keeps kp5) hmbl ?_)))))))
    refine callWith_K W.K (by with_unfolding_all rfl) (args_cons (wpAny_Name (wpAny_loadName_local rfl rfl hn₅ a5 (args_cons (Subscript_ (wpAny_Name (wpAny_loadName_local rfl rfl hn₅ a2 (wpAny_Name (wpAny_loadName_local rfl rfl hn₅ rfl
      (item_listL hts (by omega) (by omega) (by rw [Int.toNat_natCast]; exact htt) (args_nil ⟨W.K.keeps kp5, ?_⟩)))))))))))
    refine bisl_ok (W.keeps kp5) (Nat.lt_of_succ_lt hroom) hks hkn fun h₆ tk₆ t₆ hk₆ => ?_
    dsimp only at hk₆ ⊢
    have kp6 : Kp h₀ h₆ := fun b o e => hk₆ b o (kp5 b o e)
    refine wpAny_items_cons (Call_ (Name_function_global rfl rfl (loadGlobal_global (W.g.keeps kp6) hmbr ?_)))
    refine callWith_K W.K (by with_unfolding_all rfl) (args_cons (wpAny_Name (wpAny_loadName_local rfl rfl (hn₅.keeps hk₆) a5 (args_cons (Subscript_ (wpAny_Name (wpAny_loadName_local rfl rfl (hn₅.keeps hk₆) a2 (wpAny_Name (wpAny_loadName_local rfl rfl (hn₅.keeps hk₆) rfl
      (item_listL (hts.at fun o e => hk₆ _ o e) (by omega) (by omega) (by rw [Int.toNat_natCast]; exact htt) (args_nil ⟨W.K.keeps kp6, ?_⟩)))))))))))
    refine bisr_ok (W.keeps kp6) (Nat.lt_of_succ_lt hroom) (hks.at fun o e => hk₆ _ o e) hkn fun h₇ tk₇ t₇ hk₇ => ?_
    dsimp only at hk₇ ⊢
    refine wpAny_items_nil ⟨by size_fits, ?_⟩
    dsimp only
    have kp8 := kpPush h₇ { cls := .type "tuple", data := .seq [.int (bisL (ks'.map (·.1)) (txt cnt (ps.map (·.1)) way) : Int) t₆, .int (bisR (ks'.map (·.1)) (txt cnt (ps.map (·.1)) way) : Int) t₇].toArray }
    have htp : (h₇.push { cls := .type "tuple", data := .seq [.int (bisL (ks'.map (·.1)) (txt cnt (ps.map (·.1)) way) : Int) t₆, .int (bisR (ks'.map (·.1)) (txt cnt (ps.map (·.1)) way) : Int) t₇].toArray }).IsTuple h₇.objs.size #[.int (bisL (ks'.map (·.1)) (txt cnt (ps.map (·.1)) way) : Int) t₆, .int (bisR (ks'.map (·.1)) (txt cnt (ps.map (·.1)) way) : Int) t₇] :=
      ⟨_, Heap.get?_push_size _ rfl, rfl, _, rfl⟩
    generalize h₇.push { cls := .type "tuple", data := .seq [.int (bisL (ks'.map (·.1)) (txt cnt (ps.map (·.1)) way) : Int) t₆, .int (bisR (ks'.map (·.1)) (txt cnt (ps.map (·.1)) way) : Int) t₇].toArray } = h₈ at kp8 htp ⊢
    have k58 : Kp h₅ h₈ := fun b o e => kp8 b o (hk₇ b o (hk₆ b o e))
    have kp08 : Kp h₀ h₈ := fun b o e => k58 b o (kp5 b o e)
    obtain ⟨ar, vr, hr1, hr2, hr3⟩ := hyr' way hway
    refine Call_ (Name_function_global rfl rfl (loadGlobal_global (W.g.keeps kp08) hma ?_))
    refine callWith_K W.K (by with_unfolding_all rfl) (args_cons (Subscript_ (wpAny_Name (wpAny_loadName_local rfl rfl (hn₅.keeps k58) a1 (wpAny_Name (wpAny_loadName_local rfl rfl (hn₅.keeps k58) rfl
      (item_listL (hys'.at fun o e => k58 _ o e) (by omega) (by omega) (by rw [Int.toNat_natCast]; exact hr1) (args_cons (wpAny_Name (wpAny_loadName_cell rfl rfl rfl (P5.X.c5.keeps k58) (args_nil ⟨W.K.keeps kp08, ?_⟩)))))))))))
    refine ahead_ok (W.keeps kp08) hh hroom (hr2.at fun o e => k58 _ o e) hr3 (by rw [row_len]; omega) fun h₉ tk₉ ta t1 t2 hk₉ htup => ?_
    dsimp only at hk₉ ⊢
    rw [hwp] at htup
    refine ne_pairs (htp.at fun o e => hk₉ _ o e) htup hu (wpAny_truthy_bool (ifb (fun hb => nomatch hb) (fun _ => ?_)))
    refine wpAny_execs_nil (wpAny_execs_nil ⟨h₉, _, _, rfl, (hn₅.keeps k58).keeps hk₉, fun b' hb' o e => ?_, fun b o b1 e => hk₉ b o (k58 b o (fb5 b o b1 (fb b o b1 e))), a1, a2, a3, a5⟩)
    refine hk₉ b' o (k58 b' o (fb5 b' o (fun q => ?_) e))
    rcases List.mem_cons.mp hb' with r | r
    · exact hIL (q.symm.trans r)
    · exact hbL (q.symm.trans (List.mem_singleton.mp r))
  · rintro m' h tk ⟨fb, a1, a2, a3, a5⟩ hn'
    exact next h tk m' (P.step hL fb) hn' a3
end
end Mine
end

section
open PySem PySem.W PyProof.Rows PySem.Calls
namespace Mine

section
variable {w : World} {A : Around} {E : Value → Shared → Prop} {s : Shared} {mg mb : Str → Option Value}

set_option maxRecDepth 20000 in
set_option maxHeartbeats 4000000 in
theorem stageD3 {l pc rw tx fd : Addr} {cnt ld : Nat} {tc tl : Tok} {ps : List (Str × Tok)} {Q : Flow → Shared → Prop} {h₀ : Heap} {m : Str → Option Value} (W : Wd w mg mb h₀) (hh : A.handled = none) (hroom : A.depth + 3 < recursionLimit) (hu : A.units < cLine) (hB : AllBare s.gens)
    (hcnt : cnt = 4 ∨ cnt = 5) (hld : ld < 3) (hps : ∀ q ∈ ps.map (·.1), q.length ≤ 10) (P : LawPk h₀ l pc cnt ld tc tl ps rw tx fd s.heap) (hL : s.heap.Ns h₀.objs.size m) (hm3 : m (Str.ofString "fields") = some (.ref fd))
    (hP3 : preS (fld ld cnt (ps.map (·.1)) 0 ++ Str.ofString "(") = badS)
    (hQ : ∀ h tk G, Kp s.heap h → AllBare G → Q (.ret (.bool true)) { s with heap := h, toks := tk, gens := G }) :
    wpAny (model pr w) A (execs ((lawBody w.params).drop 12) (lawEnv w.params h₀.objs.size)) Q E s := by
  have hmp : mg (Str.ofString "_pre_parse_validation") = some (.ref 42) := mg_of W.K W.g (by with_unfolding_all rfl)
  obtain ⟨fs, hfs, hfl⟩ := id P.D
  have kp0 := P.X.kp
  have hf0 := field_len hcnt hld hps 0
  obtain ⟨t0, ht0⟩ := strs_of_list (i := 0) (x := fld ld cnt (ps.map (·.1)) 0) hfl (by rcases hcnt with rfl | rfl <;> rfl)
  show wpAny _ _ (execs (_ :: []) _) _ _ _
  refine wpAny_execs_cons (wpAny_Return_some (wpAny_Compare1 (Call_ (Name_function_global rfl rfl (loadGlobal_global (W.g.keeps kp0) hmp ?_)))))
  refine callWith_K W.K (by with_unfolding_all rfl) (args_cons (wpAny_List (wpAny_items_cons (wpAny_BinOp (Subscript_ (wpAny_Name (wpAny_loadName_local rfl rfl hL hm3 (wpAny_Constant_int
    (item_listL hfs (by decide) (by decide) ht0 (wpAny_Constant_str (PyProof.Rows.add_str (fun t₁ k₁ => wpAny_items_nil ⟨by size_fits, args_nil ⟨W.K.keeps fun b o e => kpPush _ _ b o (kp0 b o e), ?_⟩⟩) ?_)))))))))))
  · dsimp only
    have l1 : (s.heap.push (lo (strValues [(fld ld cnt (ps.map (·.1)) 0 ++ Str.ofString "(", t₁)]))).IsList s.heap.objs.size (strValues [(fld ld cnt (ps.map (·.1)) 0 ++ Str.ofString "(", t₁)]).toArray := isList_lo (Heap.get?_push_size _ rfl)
    have kp1 := kpPush s.heap (lo (strValues [(fld ld cnt (ps.map (·.1)) 0 ++ Str.ofString "(", t₁)]))
    show wpAny _ _ _ _ _ { s with heap := s.heap.push (lo (strValues [(fld ld cnt (ps.map (·.1)) 0 ++ Str.ofString "(", t₁)])), toks := k₁ }
    generalize s.heap.push (lo (strValues [(fld ld cnt (ps.map (·.1)) 0 ++ Str.ofString "(", t₁)])) = h₁ at l1 kp1 ⊢
    refine pre_ok (s := { s with heap := h₁, toks := k₁ }) (W.keeps fun b o e => kp1 b o (kp0 b o e)) hh hroom hB l1 ?_ (by simp) fun h₂ tk₂ G r ls' hk₂ hG hr hP hls => ?_
    · intro p hp
      rw [List.mem_singleton.mp hp]
      show ((fld ld cnt (ps.map (·.1)) 0).cps ++ (Str.ofString "(").cps).toList.length ≤ 1000
      rw [Array.toList_append, List.length_append, ← len_list', show (Str.ofString "(").cps.toList.length = 1 from rfl]
      omega
    dsimp only at hk₂ hr ⊢
    refine wpAny_List (itS (wpAny_items_nil ⟨by size_fits, ?_⟩))
    dsimp only
    refine eq_strs (l1 := ls') (l2 := [(badS, tk₂)]) (hP.isList.push _) (isList_lo (Heap.get?_push_size _ rfl)) ?_ hu ?_
    · rw [hls]; show [preS _] = [badS]; rw [hP3]
    · exact hQ _ _ G (fun b o e => kpPush _ _ b o (hk₂ b o (kp1 b o e))) hG
  · rw [sizeLine_eq, show (Str.ofString "(").length = 1 from rfl]; omega

theorem hid_len : ∀ q ∈ hid6, q.length ≤ 10 := by decide +kernel

/-- what the plain law has to give -/
structure Plain (ld cnt : Nat) (qs : List Str) : Prop where
  p1 : ((takenS ld cnt qs).length : Int) = stayN cnt ld
  p2 : ∀ way, way < 2 ^ cnt → aheadN (rowOf way cnt) ld = ((bisL (takenS ld cnt qs) (txt cnt qs way) : Int), (bisR (takenS ld cnt qs) (txt cnt qs way) : Int))
  p3 : preS (fld ld cnt qs 0 ++ Str.ofString "(") = badS

set_option maxRecDepth 20000 in
set_option maxHeartbeats 4000000 in
theorem law_of (plain : ∀ ld cnt qs, ld < 3 → (cnt = 4 ∨ cnt = 5) → qs.length = cnt → (∀ q ∈ qs, q ∈ hid6) → Plain ld cnt qs)
    {l : Addr} {vs : List Value} {ns : List Int} {Q : Value → Shared → Prop} (W : Wd w mg mb s.heap) (hh : A.handled = none) (hroom : A.depth + 10 < recursionLimit) (hu : A.units + 20 < cLine)
    (hl : s.heap.IsList l vs.toArray) (hI : IntsAre vs ns) (hn : ns.length ≤ 63) (hG : AllBare s.gens)
    (hQ : ∀ h' tk G, Kp s.heap h' → AllBare G → Q (.bool true) { s with heap := h', toks := tk, gens := G }) :
    wpAny (model pr w) A (call (.ref 87) [.ref l]) Q E s := by
  have hcd : s.heap.CodeRec (.ref 86) (Str.ofString "law") := ⟨86, _, _, _, rfl, W.K 86 _ rfl, rfl, rfl⟩
  refine wpAny_call (call_cells_ret (binds := [(Str.ofString "script", .ref l)]) (by omega) (W.K 87 _ rfl) rfl W.lim hcd rfl (kinds_of ⟨.inr ⟨rfl, rfl⟩, trivial⟩) fun h₁ tk₁ F X => ?_)
  have hd : ∀ env : Env, (A.deeper env).depth = A.depth + 1 := fun _ => rfl
  have hun : ∀ env : Env, (A.deeper env).units = A.units + 3 := fun _ => rfl
  refine stageA (h₀ := s.heap) W (deep hh) F X rfl hl hI hn fun h tk cnt ld tc tl ps pc m' hcnt hld hpl hpm Xs hL => ?_
  have hq : ∀ q ∈ ps.map (·.1), q ∈ hid6 := fun q hq => by
    obtain ⟨p, hp, rfl⟩ := List.mem_map.mp hq
    exact hpm p hp
  have PL := plain ld cnt (ps.map (·.1)) hld hcnt (by simpa using hpl) hq
  have hps : ∀ q ∈ ps.map (·.1), q.length ≤ 10 := fun q h => hid_len q (hq q h)
  have hps' : ∀ p ∈ ps, p.1.length ≤ 10 := fun p h => hid_len _ (hpm p h)
  refine stageB1 W (deep hh) (by rw [hd]; omega) hcnt Xs hL fun h₂ tk₂ rw X2 R2 L2 => ?_
  refine stageB2 W (deep hh) (by rw [hd]; omega) hcnt hps' X2 L2 R2 rfl fun h₃ tk₃ tx X3 R3 T3 L3 => ?_
  refine stageB3 W (deep hh) hcnt hld hps' X3 L3 R3 rfl T3 rfl fun h₄ tk₄ fd X4 R4 T4 D4 L4 => ?_
  refine stageC1 W (deep hh) (by rw [hd]; omega) hG hcnt hld hps ⟨X4, R4, T4, D4⟩ L4 rfl fun h₅ tk₅ G5 td hG5 P5 T5 L5 => ?_
  refine stageC2 W (deep hh) (by rw [hun]; omega) hcnt P5 T5 L5 rfl rfl fun h₆ tk₆ k6 => ?_
  refine stageC3 W (deep hh) hcnt (P5.keeps k6) (T5.keeps k6) (L5.keeps k6) rfl rfl rfl fun h₇ tk₇ tn P7 T7 K7 L7 => ?_
  refine stageD1 W (deep hh) (by rw [hd]; omega) hcnt P7 T7 K7 L7 rfl rfl rfl PL.p1 fun h₈ tk₈ k8 => ?_
  refine stageD2 W (deep hh) (by rw [hd]; omega) (by rw [hun]; omega) hl hI hn hcnt (P7.keeps k8) (K7.keeps k8) (L7.keeps k8) rfl rfl rfl rfl PL.p2 fun h₉ tk₉ m9 P9 L9 m93 => ?_
  refine stageD3 W (deep hh) (by rw [hd]; omega) (by rw [hun]; omega) hG5 hcnt hld hps P9 L9 m93 PL.p3 fun h tk G k hG' => ?_
  exact hQ _ _ _ (fun b o e => k b o (P9.X.kp b o e)) hG'
end
end Mine
end

section
open PySem PySem.W PyProof.Rows PySem.Calls
namespace Mine

/-- the blocks of signs of which a field is made -/
def okB (b : List Nat) : Prop := b = [40] ∨ b = [41] ∨ b = [34, 40, 34] ∨ b = [92, 41] ∨ b = [92, 34] ∨ b = [92, 92]
def cutB (b : List Nat) : List Nat := if b = [34, 40, 34] then [] else b
def parB : Int → List (List Nat) → Bool
  | o, [] => o == 0
  | o, b :: r => if b = [40] then parB (o + 1) r else if b = [41] then (if o - 1 < 0 then false else parB (o - 1) r) else parB o r

theorem par_blocks : ∀ (bs : List (List Nat)) (o : Int) (i : Nat), (∀ b ∈ bs, okB b) → parRun o (escItems (bs.map cutB).flatten i false) = parB o bs
  | [], o, i, _ => by simp [escItems, parRun, parB]
  | b :: r, o, i, h => by
    have hr : ∀ b ∈ r, okB b := fun b hb => h b (List.mem_cons_of_mem _ hb)
    rcases h b List.mem_cons_self with rfl | rfl | rfl | rfl | rfl | rfl
    · have := par_blocks r (o + 1) (i + 1) hr
      simpa [cutB, escItems, parRun, parB] using this
    · have := par_blocks r (o - 1) (i + 1) hr
      simp [cutB, escItems, parRun, parB, this]
    · have := par_blocks r o i hr
      simpa [cutB, escItems, parRun, parB] using this
    · have := par_blocks r o (i + 1 + 1) hr
      simpa [cutB, escItems, parRun, parB] using this
    · have := par_blocks r o (i + 1 + 1) hr
      simpa [cutB, escItems, parRun, parB] using this
    · have := par_blocks r o (i + 1 + 1) hr
      simpa [cutB, escItems, parRun, parB] using this

theorem slice_mid {x : Str} {pre rest : List Nat} {start : Nat} (hx : x.cps.toList = pre ++ rest) (hs : start ≤ pre.length) : (Txt.slice x (some (start : Int)) (some (pre.length : Int))).cps.toList = pre.drop start := by
  have e : Txt.slice x (some (start : Int)) (some (pre.length : Int)) = _ := beq_iff_eq.mp (slice_closes (x := x) (i := start) (j := pre.length) ⟨by omega, by omega, by rw [hx, List.length_append]; omega⟩)
  rw [e]
  show ((x.cps.toList.drop _).take _) = _
  rw [hx, Int.toNat_natCast, List.drop_append_of_le_length hs]
  have : ((pre.length : Int) - start).toNat = (pre.drop start).length := by rw [List.length_drop]; omega
  rw [this, List.take_left']
  rfl
theorem slice_end {x : Str} {pre : List Nat} {start : Nat} (hx : x.cps.toList = pre) (hs : start ≤ pre.length) : (Txt.slice x (some (start : Int)) none).cps.toList = pre.drop start := by
  have hl : x.length = pre.length := by rw [len_list', hx]
  rw [slice_from_eq (x := x) (i := start) (b := x.length) (by omega) (by omega) rfl]
  show ((x.cps.toList.drop _).take _) = _
  rw [hx, Int.toNat_natCast]
  apply List.take_of_length_le
  rw [List.length_drop]; omega

theorem strip_run (x : Str) : ∀ (bs : List (List Nat)) (pre : List Nat) (start : Nat) (acc : List Str), (∀ b ∈ bs, okB b) → x.cps.toList = pre ++ bs.flatten → start ≤ pre.length →
    (stripRun x start none acc (escItems bs.flatten pre.length false)).flatMap (fun y => y.cps.toList) = acc.flatMap (fun y => y.cps.toList) ++ pre.drop start ++ (bs.map cutB).flatten
  | [], pre, start, acc, _, hx, hs => by
    have hx' : x.cps.toList = pre := by simpa using hx
    have hl : x.length = pre.length := by rw [len_list', hx']
    simp only [List.flatten_nil, escItems, stripRun, List.map_nil, List.append_nil]
    by_cases hlt : start < x.length
    · rw [if_pos hlt, List.flatMap_append, List.flatMap_cons, List.flatMap_nil, List.append_nil, slice_end hx' hs]
    · rw [if_neg hlt]
      have : pre.drop start = [] := List.drop_eq_nil_of_le (by omega)
      rw [this, List.append_nil]
  | b :: r, pre, start, acc, h, hx, hs => by
    have hr : ∀ b ∈ r, okB b := fun b hb => h b (List.mem_cons_of_mem _ hb)
    have hx' : x.cps.toList = (pre ++ b) ++ r.flatten := by rw [hx]; simp
    have hlen : (pre ++ b).length = pre.length + b.length := List.length_append
    have hs' : start ≤ (pre ++ b).length := by omega
    have ih := strip_run x r (pre ++ b) start acc hr hx' hs'
    rw [hlen, List.drop_append_of_le_length hs] at ih
    rcases h b List.mem_cons_self with rfl | rfl | rfl | rfl | rfl | rfl
    · simpa [cutB, escItems, stripRun] using ih
    · simpa [cutB, escItems, stripRun] using ih
    · have ih2 := strip_run x r (pre ++ [34, 40, 34]) (pre.length + 2 + 1) (if start ≠ pre.length then acc ++ [Txt.slice x (some (start : Int)) (some (pre.length : Int))] else acc) hr hx' (by rw [hlen]; simp)
      rw [hlen] at ih2
      have hd : (pre ++ [34, 40, 34]).drop (pre.length + 2 + 1) = [] := List.drop_eq_nil_of_le (by rw [hlen]; simp)
      rw [hd] at ih2
      have hacc : (if start ≠ pre.length then acc ++ [Txt.slice x (some (start : Int)) (some (pre.length : Int))] else acc).flatMap (fun y => y.cps.toList) = acc.flatMap (fun y => y.cps.toList) ++ pre.drop start := by
        by_cases he : start = pre.length
        · rw [if_neg (by simpa using he)]
          have : pre.drop start = [] := List.drop_eq_nil_of_le (by omega)
          rw [this, List.append_nil]
        · rw [if_pos he, List.flatMap_append, List.flatMap_cons, List.flatMap_nil, List.append_nil, slice_mid hx hs]
      rw [hacc] at ih2
      simpa [cutB, escItems, stripRun] using ih2
    · simpa [cutB, escItems, stripRun] using ih
    · simpa [cutB, escItems, stripRun] using ih
    · simpa [cutB, escItems, stripRun] using ih

theorem strip_list {x : Str} {bs : List (List Nat)} (h : ∀ b ∈ bs, okB b) (hx : x.cps.toList = bs.flatten) : (stripS x).cps.toList = (bs.map cutB).flatten := by
  unfold stripS
  by_cases hc : Txt.contains x (Str.ofString "\"") = true
  · rw [if_pos hc, join_list, hx]
    have := strip_run x bs [] 0 [] h (by simpa using hx) (Nat.le_refl _)
    simpa using this
  · rw [if_neg hc, hx]
    have hn : 34 ∉ x.cps.toList := by
      intro hm
      apply hc
      rw [quo]
      show (!(Builtin.Str.occurrences x ⟨#[34]⟩ 0 x.length 1).isEmpty) = true
      rw [StrLaws.found_one]
      exact decide_eq_true hm
    rw [hx] at hn
    have : bs.map cutB = bs := by
      conv => rhs; rw [← List.map_id bs]
      apply List.map_congr_left
      intro b hb
      show cutB b = b
      unfold cutB
      rw [if_neg]
      rintro rfl
      exact hn (List.mem_flatten.mpr ⟨_, hb, by simp⟩)
    rw [this]
theorem check_blocks {x : Str} {bs : List (List Nat)} (h : ∀ b ∈ bs, okB b) (hx : x.cps.toList = bs.flatten) : checkP x = parB 0 bs := by
  unfold checkP
  rw [strip_list h hx, par_blocks bs 0 0 h]
end Mine
end

section
open PySem PySem.W PyProof.Rows PySem.Calls
namespace Mine

/-- a walk over bits: 0 opens, 1 shuts -/
def runB : Int → List Int → Bool
  | o, [] => o == 0
  | o, b :: r => if b == 0 then runB (o + 1) r else if o - 1 < 0 then false else runB (o - 1) r
def bitOf (b : List Nat) : List Int := if b = [40] then [0] else if b = [41] then [1] else []
theorem par_bits : ∀ (bs : List (List Nat)) (o : Int), parB o bs = runB o (bs.flatMap bitOf)
  | [], o => rfl
  | b :: r, o => by
    unfold parB
    rw [List.flatMap_cons]
    by_cases h1 : b = [40]
    · subst h1
      rw [if_pos rfl, par_bits r]; rfl
    · rw [if_neg h1]
      by_cases h2 : b = [41]
      · subst h2
        rw [if_pos rfl, par_bits r]; rfl
      · rw [if_neg h2, par_bits r]
        have : bitOf b = [] := by unfold bitOf; rw [if_neg h1, if_neg h2]
        rw [this, List.nil_append]

def pb (p : Str) : List (List Nat) := if p.cps.toList = [] then [] else [p.cps.toList]
theorem pb_flat (p : Str) : (pb p).flatten = p.cps.toList := by
  unfold pb
  by_cases h : p.cps.toList = []
  · rw [if_pos h, h]; rfl
  · rw [if_neg h]; simp
theorem hid_blocks : ∀ p ∈ hid6, (pb p = [] ∨ pb p = [[34, 40, 34]] ∨ pb p = [[92, 41]] ∨ pb p = [[92, 34]] ∨ pb p = [[92, 92]]) := by decide +kernel
theorem pb_ok {p : Str} (hp : p ∈ hid6) : (∀ b ∈ pb p, okB b) ∧ (pb p).flatMap bitOf = [] := by
  rcases hid_blocks p hp with h | h | h | h | h <;> rw [h]
  · exact ⟨fun _ hb => (nomatch hb), rfl⟩
  · exact ⟨fun b hb => by rw [List.mem_singleton.mp hb]; exact .inr (.inr (.inl rfl)), rfl⟩
  · exact ⟨fun b hb => by rw [List.mem_singleton.mp hb]; exact .inr (.inr (.inr (.inl rfl))), rfl⟩
  · exact ⟨fun b hb => by rw [List.mem_singleton.mp hb]; exact .inr (.inr (.inr (.inr (.inl rfl)))), rfl⟩
  · exact ⟨fun b hb => by rw [List.mem_singleton.mp hb]; exact .inr (.inr (.inr (.inr (.inr rfl)))), rfl⟩

def isBits (bs : List Int) : Prop := ∀ b ∈ bs, b = 0 ∨ b = 1
def midB (bs : List Int) (qs : List Str) : List (List Nat) := (List.zipWith (fun b p => [sg b] :: pb p) bs qs).flatten
theorem mid_flat : ∀ (bs : List Int) (qs : List Str), (midB bs qs).flatten = (textOf bs qs).cps.toList := by
  intro bs qs
  rw [text_list, midB]
  induction bs generalizing qs with
  | nil => rfl
  | cons b bs ih =>
    cases qs with
    | nil => rfl
    | cons q qs =>
      simp only [List.zipWith_cons_cons, List.flatten_cons, List.flatten_append, ih, pb_flat]
      rfl
theorem sg_ok {b : Int} (hb : b = 0 ∨ b = 1) : okB [sg b] ∧ bitOf [sg b] = [b] := by
  rcases hb with rfl | rfl
  · exact ⟨.inl rfl, rfl⟩
  · exact ⟨.inr (.inl rfl), rfl⟩
theorem mid_ok : ∀ (bs : List Int) (qs : List Str), isBits bs → (∀ q ∈ qs, q ∈ hid6) → bs.length = qs.length → (∀ b ∈ midB bs qs, okB b) ∧ (midB bs qs).flatMap bitOf = bs := by
  intro bs
  induction bs with
  | nil => intro qs _ _ _; exact ⟨fun _ hb => by simp [midB] at hb, rfl⟩
  | cons b bs ih =>
    intro qs hb hq hl
    cases qs with
    | nil => simp at hl
    | cons q qs =>
      obtain ⟨i1, i2⟩ := ih qs (fun c hc => hb c (List.mem_cons_of_mem _ hc)) (fun c hc => hq c (List.mem_cons_of_mem _ hc)) (by simpa using hl)
      obtain ⟨s1, s2⟩ := sg_ok (hb b List.mem_cons_self)
      obtain ⟨p1, p2⟩ := pb_ok (hq q List.mem_cons_self)
      have e : midB (b :: bs) (q :: qs) = ([sg b] :: pb q) ++ midB bs qs := rfl
      rw [e]
      refine ⟨fun c hc => ?_, ?_⟩
      · rcases List.mem_append.mp hc with hc | hc
        · rcases List.mem_cons.mp hc with rfl | hc
          · exact s1
          · exact p1 c hc
        · exact i1 c hc
      · rw [List.flatMap_append, List.flatMap_cons, s2, p2, i2]; rfl

def fieldB (ld k : Nat) (bs : List Int) (qs : List Str) : List (List Nat) := List.replicate ld [40] ++ midB bs qs ++ List.replicate k [41]
theorem rep_flat (n c : Nat) : (List.replicate n [c]).flatten = List.replicate n c := by
  induction n with
  | zero => rfl
  | succ n ih => rw [List.replicate_succ, List.flatten_cons, ih]; rfl
theorem rep_bits (n : Nat) : (List.replicate n [40]).flatMap bitOf = List.replicate n 0 ∧ (List.replicate n [41]).flatMap bitOf = List.replicate n 1 := by
  induction n with
  | zero => exact ⟨rfl, rfl⟩
  | succ n ih =>
    constructor
    · rw [List.replicate_succ, List.flatMap_cons, ih.1]; rfl
    · rw [List.replicate_succ, List.flatMap_cons, ih.2]; rfl
theorem field_ok {ld k : Nat} {bs : List Int} {qs : List Str} (h1 : isBits bs) (h2 : ∀ q ∈ qs, q ∈ hid6) (h3 : bs.length = qs.length) :
    (∀ b ∈ fieldB ld k bs qs, okB b) ∧ (fieldB ld k bs qs).flatMap bitOf = List.replicate ld 0 ++ bs ++ List.replicate k 1 := by
  obtain ⟨m1, m2⟩ := mid_ok bs qs h1 h2 h3
  refine ⟨fun b hb => ?_, ?_⟩
  · rcases List.mem_append.mp hb with hb | hb
    · rcases List.mem_append.mp hb with hb | hb
      · rw [(List.mem_replicate.mp hb).2]; exact .inl rfl
      · exact m1 b hb
    · rw [(List.mem_replicate.mp hb).2]; exact .inr (.inl rfl)
  · unfold fieldB
    rw [List.flatMap_append, List.flatMap_append, (rep_bits ld).1, (rep_bits k).2, m2]

theorem row_bits (i n : Nat) : isBits (rowOf i n) := by
  intro b hb
  obtain ⟨p, _, rfl⟩ := List.mem_map.mp hb
  have : i / 2 ^ (n - 1 - p) % 2 < 2 := Nat.mod_lt _ (by decide)
  omega

/-- how many shut behind a row -/
def tailN (ld cnt i : Nat) : Nat := ((ld : Int) + cnt - 2 * (rowOf i cnt).sum).toNat
theorem fld_list (ld cnt : Nat) (qs : List Str) (i : Nat) : (fld ld cnt qs i).cps.toList = (fieldB ld (tailN ld cnt i) (rowOf i cnt) qs).flatten := by
  rw [fld, field_list]
  unfold fieldB tailN
  rw [List.flatten_append, List.flatten_append, rep_flat, rep_flat, mid_flat]
  rfl
def keep0 (ld cnt i : Nat) : Bool := runB 0 (List.replicate ld 0 ++ rowOf i cnt ++ List.replicate (tailN ld cnt i) 1)
theorem check_fld {ld cnt : Nat} {qs : List Str} (h2 : ∀ q ∈ qs, q ∈ hid6) (h3 : qs.length = cnt) (i : Nat) : checkP (fld ld cnt qs i) = keep0 ld cnt i := by
  obtain ⟨f1, f2⟩ := field_ok (ld := ld) (k := tailN ld cnt i) (row_bits i cnt) h2 (by rw [row_len, h3])
  rw [check_blocks f1 (fld_list ld cnt qs i), par_bits, f2]; rfl
theorem ok_no39 {b : List Nat} (h : okB b) : 39 ∉ b := by
  rcases h with rfl | rfl | rfl | rfl | rfl | rfl <;> decide
theorem bad39 : 39 ∈ badS.cps.toList := by decide +kernel
theorem pre_fld {ld cnt : Nat} {qs : List Str} (h2 : ∀ q ∈ qs, q ∈ hid6) (h3 : qs.length = cnt) (i : Nat) : (preS (fld ld cnt qs i) == fld ld cnt qs i) = keep0 ld cnt i := by
  rw [← check_fld h2 h3 i]
  unfold preS
  by_cases hc : checkP (fld ld cnt qs i) = true
  · rw [if_pos hc, hc]; exact beq_self_eq_true _
  · rw [if_neg hc]
    have hf : checkP (fld ld cnt qs i) = false := by simpa using hc
    rw [hf]
    apply beq_eq_false_iff_ne.mpr
    intro e
    have h39 := bad39
    rw [e, fld_list] at h39
    obtain ⟨b, hb, hm⟩ := List.mem_flatten.mp h39
    exact ok_no39 ((field_ok (row_bits i cnt) h2 (by rw [row_len, h3])).1 b hb) hm
theorem kept_eq {ld cnt : Nat} {qs : List Str} (h2 : ∀ q ∈ qs, q ∈ hid6) (h3 : qs.length = cnt) : kept ld cnt qs = (List.range (2 ^ cnt)).filter (keep0 ld cnt) := by
  unfold kept
  congr 1
  funext i
  exact pre_fld h2 h3 i
theorem refused {ld cnt : Nat} {qs : List Str} (h2 : ∀ q ∈ qs, q ∈ hid6) (h3 : qs.length = cnt) (hr : runB 0 (List.replicate ld 0 ++ rowOf 0 cnt ++ List.replicate (tailN ld cnt 0) 1 ++ [0]) = false) :
    preS (fld ld cnt qs 0 ++ Str.ofString "(") = badS := by
  obtain ⟨f1, f2⟩ := field_ok (ld := ld) (k := tailN ld cnt 0) (row_bits 0 cnt) h2 (by rw [row_len, h3])
  have hx : (fld ld cnt qs 0 ++ Str.ofString "(").cps.toList = (fieldB ld (tailN ld cnt 0) (rowOf 0 cnt) qs ++ [[40]]).flatten := by
    show ((fld ld cnt qs 0).cps ++ (Str.ofString "(").cps).toList = _
    rw [Array.toList_append, fld_list, List.flatten_append, opn]; rfl
  have hc : checkP (fld ld cnt qs 0 ++ Str.ofString "(") = false := by
    rw [check_blocks (fun b hb => ?_) hx, par_bits, List.flatMap_append, f2]
    · exact hr
    · rcases List.mem_append.mp hb with hb | hb
      · exact f1 b hb
      · rw [List.mem_singleton.mp hb]; exact .inl rfl
  unfold preS
  rw [hc]; rfl

/-- the order of rows -/
def lexB : List Int → List Int → Bool
  | a :: as, b :: bs => if a == b then lexB as bs else a == 0
  | _, _ => false
theorem app_lt (p : List Nat) (l l' : List Nat) : (p ++ l < p ++ l') ↔ l < l' := by
  induction p with
  | nil => rfl
  | cons a p ih => rw [List.cons_append, List.cons_append, List.cons_lt_cons_iff, ih]; simp
theorem lt_text : ∀ (as bs : List Int) (qs : List Str), isBits as → isBits bs → as.length = qs.length → bs.length = qs.length → ltS (textOf as qs) (textOf bs qs) = lexB as bs := by
  intro as bs qs
  unfold ltS
  rw [text_list, text_list]
  induction qs generalizing as bs with
  | nil =>
    intro _ _ h1 h2
    rw [List.length_nil] at h1 h2
    rw [List.eq_nil_of_length_eq_zero h1, List.eq_nil_of_length_eq_zero h2]; rfl
  | cons q qs ih =>
    intro ha hb h1 h2
    cases as with
    | nil => simp at h1
    | cons a as =>
      cases bs with
      | nil => simp at h2
      | cons b bs =>
        have ih' := ih as bs (fun c hc => ha c (List.mem_cons_of_mem _ hc)) (fun c hc => hb c (List.mem_cons_of_mem _ hc)) (by simpa using h1) (by simpa using h2)
        simp only [List.zipWith_cons_cons, List.flatten_cons, List.cons_append]
        rcases ha a List.mem_cons_self with rfl | rfl <;> rcases hb b List.mem_cons_self with rfl | rfl
        · have e : lexB (0 :: as) (0 :: bs) = lexB as bs := rfl
          rw [e, ← ih']
          apply decide_eq_decide.mpr
          rw [List.cons_lt_cons_iff, app_lt]; simp
        · have e : lexB (0 :: as) (1 :: bs) = true := rfl
          rw [e]
          apply decide_eq_true
          rw [List.cons_lt_cons_iff]
          exact .inl (by decide)
        · have e : lexB (1 :: as) (0 :: bs) = false := rfl
          rw [e]
          apply decide_eq_false
          rw [List.cons_lt_cons_iff]
          rintro (h | h)
          · exact absurd h (by decide)
          · exact absurd h.1 (by decide)
        · have e : lexB (1 :: as) (1 :: bs) = lexB as bs := rfl
          rw [e, ← ih']
          apply decide_eq_decide.mpr
          rw [List.cons_lt_cons_iff, app_lt]; simp
theorem bis_congr {p q : Nat → Bool} : ∀ (n lo hi : Nat), (∀ i, i < hi → p i = q i) → bisLoop p n lo hi = bisLoop q n lo hi
  | 0, _, _, _ => rfl
  | n + 1, lo, hi, h => by
    unfold bisLoop
    by_cases hlt : lo < hi
    · rw [if_pos hlt, if_pos hlt, h _ (by omega), bis_congr n _ hi h, bis_congr n lo ((lo + hi) / 2) (fun i hi' => h i (by omega))]
    · rw [if_neg hlt, if_neg hlt]

/-- the kept rows, by sight -/
def keptN (ld cnt : Nat) : List Nat := (List.range (2 ^ cnt)).filter (keep0 ld cnt)
theorem lex_row4 : ((List.range 16).all fun i => (List.range 16).all fun j => lexB (rowOf i 4) (rowOf j 4) == decide (i < j)) = true := by decide +kernel
theorem lex_row5 : ((List.range 32).all fun i => (List.range 32).all fun j => lexB (rowOf i 5) (rowOf j 5) == decide (i < j)) = true := by decide +kernel
theorem lex_row {cnt i j : Nat} (hc : cnt = 4 ∨ cnt = 5) (hi : i < 2 ^ cnt) (hj : j < 2 ^ cnt) : lexB (rowOf i cnt) (rowOf j cnt) = decide (i < j) := by
  rcases hc with rfl | rfl
  · have := List.all_eq_true.mp (List.all_eq_true.mp lex_row4 i (List.mem_range.mpr hi)) j (List.mem_range.mpr hj)
    exact beq_iff_eq.mp this
  · have := List.all_eq_true.mp (List.all_eq_true.mp lex_row5 i (List.mem_range.mpr hi)) j (List.mem_range.mpr hj)
    exact beq_iff_eq.mp this
/-- the search among the numbers of the rows -/
def blN (K : List Nat) (way : Nat) : Nat := bisLoop (fun i => decide (K.getD i 0 < way)) K.length 0 K.length
def brN (K : List Nat) (way : Nat) : Nat := bisLoop (fun i => !decide (way < K.getD i 0)) K.length 0 K.length
def allOk (ld cnt : Nat) (K : List Nat) : Bool :=
  ((K.length : Int) == stayN cnt ld) && (List.range (2 ^ cnt)).all fun way => aheadN (rowOf way cnt) ld == ((blN K way : Int), (brN K way : Int))
theorem keptN_0_4 : keptN 0 4 = [0, 1, 2, 3, 4, 5] := by decide +kernel
theorem allOk_0_4 : allOk 0 4 [0, 1, 2, 3, 4, 5] = true := by decide +kernel
theorem refd_0_4 : runB 0 (List.replicate 0 0 ++ rowOf 0 4 ++ List.replicate (tailN 0 4 0) 1 ++ [0]) = false := by decide +kernel
theorem keptN_1_4 : keptN 1 4 = [0, 1, 2, 3, 4, 5, 6, 8, 9, 10] := by decide +kernel
theorem allOk_1_4 : allOk 1 4 [0, 1, 2, 3, 4, 5, 6, 8, 9, 10] = true := by decide +kernel
theorem refd_1_4 : runB 0 (List.replicate 1 0 ++ rowOf 0 4 ++ List.replicate (tailN 1 4 0) 1 ++ [0]) = false := by decide +kernel
theorem keptN_2_4 : keptN 2 4 = [0, 1, 2, 3, 4, 5, 6, 7, 8, 9, 10, 11, 12, 13] := by decide +kernel
theorem allOk_2_4 : allOk 2 4 [0, 1, 2, 3, 4, 5, 6, 7, 8, 9, 10, 11, 12, 13] = true := by decide +kernel
theorem refd_2_4 : runB 0 (List.replicate 2 0 ++ rowOf 0 4 ++ List.replicate (tailN 2 4 0) 1 ++ [0]) = false := by decide +kernel
theorem keptN_0_5 : keptN 0 5 = [0, 1, 2, 3, 4, 5, 6, 8, 9, 10] := by decide +kernel
theorem allOk_0_5 : allOk 0 5 [0, 1, 2, 3, 4, 5, 6, 8, 9, 10] = true := by decide +kernel
theorem refd_0_5 : runB 0 (List.replicate 0 0 ++ rowOf 0 5 ++ List.replicate (tailN 0 5 0) 1 ++ [0]) = false := by decide +kernel
theorem keptN_1_5 : keptN 1 5 = [0, 1, 2, 3, 4, 5, 6, 7, 8, 9, 10, 11, 12, 13, 16, 17, 18, 19, 20, 21] := by decide +kernel
theorem allOk_1_5 : allOk 1 5 [0, 1, 2, 3, 4, 5, 6, 7, 8, 9, 10, 11, 12, 13, 16, 17, 18, 19, 20, 21] = true := by decide +kernel
theorem refd_1_5 : runB 0 (List.replicate 1 0 ++ rowOf 0 5 ++ List.replicate (tailN 1 5 0) 1 ++ [0]) = false := by decide +kernel
theorem keptN_2_5 : keptN 2 5 = [0, 1, 2, 3, 4, 5, 6, 7, 8, 9, 10, 11, 12, 13, 14, 16, 17, 18, 19, 20, 21, 22, 24, 25, 26] := by decide +kernel
theorem allOk_2_5 : allOk 2 5 [0, 1, 2, 3, 4, 5, 6, 7, 8, 9, 10, 11, 12, 13, 14, 16, 17, 18, 19, 20, 21, 22, 24, 25, 26] = true := by decide +kernel
theorem refd_2_5 : runB 0 (List.replicate 2 0 ++ rowOf 0 5 ++ List.replicate (tailN 2 5 0) 1 ++ [0]) = false := by decide +kernel
theorem all_ok {ld cnt : Nat} (hl : ld < 3) (hc : cnt = 4 ∨ cnt = 5) : allOk ld cnt (keptN ld cnt) = true ∧ runB 0 (List.replicate ld 0 ++ rowOf 0 cnt ++ List.replicate (tailN ld cnt 0) 1 ++ [0]) = false := by
  rcases hc with rfl | rfl <;> rcases (show ld = 0 ∨ ld = 1 ∨ ld = 2 by omega) with rfl | rfl | rfl
  · rw [keptN_0_4]; exact ⟨allOk_0_4, refd_0_4⟩
  · rw [keptN_1_4]; exact ⟨allOk_1_4, refd_1_4⟩
  · rw [keptN_2_4]; exact ⟨allOk_2_4, refd_2_4⟩
  · rw [keptN_0_5]; exact ⟨allOk_0_5, refd_0_5⟩
  · rw [keptN_1_5]; exact ⟨allOk_1_5, refd_1_5⟩
  · rw [keptN_2_5]; exact ⟨allOk_2_5, refd_2_5⟩

theorem bis_left {ld cnt : Nat} {qs : List Str} (hc : cnt = 4 ∨ cnt = 5) (h2 : ∀ q ∈ qs, q ∈ hid6) (h3 : qs.length = cnt) {way : Nat} (hw : way < 2 ^ cnt) : bisL (takenS ld cnt qs) (txt cnt qs way) = blN (keptN ld cnt) way ∧ bisR (takenS ld cnt qs) (txt cnt qs way) = brN (keptN ld cnt) way := by
  have ht : takenS ld cnt qs = (keptN ld cnt).map (txt cnt qs) := by unfold takenS; rw [kept_eq h2 h3]; rfl
  have hlen : (takenS ld cnt qs).length = (keptN ld cnt).length := by rw [ht, List.length_map]
  have key : ∀ i, i < (keptN ld cnt).length → (takenS ld cnt qs).getD i ⟨#[]⟩ = txt cnt qs ((keptN ld cnt).getD i 0) ∧ (keptN ld cnt).getD i 0 < 2 ^ cnt := by
    intro i hi
    have hm : (keptN ld cnt)[i] ∈ List.range (2 ^ cnt) := (List.mem_filter.mp (List.getElem_mem hi)).1
    rw [ht]
    simp only [List.getD_eq_getElem?_getD, List.getElem?_map, List.getElem?_eq_getElem hi, Option.map_some, Option.getD_some]
    exact ⟨trivial, List.mem_range.mp hm⟩
  unfold bisL bisR blN brN
  rw [hlen]
  constructor
  · apply bis_congr
    intro i hi
    obtain ⟨k1, k2⟩ := key i hi
    rw [k1, txt, txt, lt_text _ _ _ (row_bits _ _) (row_bits _ _) (by rw [row_len, h3]) (by rw [row_len, h3]), lex_row hc k2 hw]
  · apply bis_congr
    intro i hi
    obtain ⟨k1, k2⟩ := key i hi
    rw [k1, txt, txt, lt_text _ _ _ (row_bits _ _) (row_bits _ _) (by rw [row_len, h3]) (by rw [row_len, h3]), lex_row hc hw k2]

theorem plain {ld cnt : Nat} {qs : List Str} (hl : ld < 3) (hc : cnt = 4 ∨ cnt = 5) (h3 : qs.length = cnt) (h2 : ∀ q ∈ qs, q ∈ hid6) : Plain ld cnt qs := by
  obtain ⟨h, hr⟩ := all_ok hl hc
  obtain ⟨e1, e2⟩ := Bool.and_eq_true_iff.mp h
  refine ⟨?_, fun way hw => ?_, refused h2 h3 hr⟩
  · have ht : (takenS ld cnt qs).length = (keptN ld cnt).length := by unfold takenS; rw [List.length_map, kept_eq h2 h3]; rfl
    rw [ht]; exact beq_iff_eq.mp e1
  · obtain ⟨b1, b2⟩ := bis_left (ld := ld) hc h2 h3 hw
    rw [b1, b2]
    exact beq_iff_eq.mp (List.all_eq_true.mp e2 way (List.mem_range.mpr hw))
end Mine
end

open PySem PySem.W PyProof.Rows PySem.Calls

set_option maxRecDepth 100000 in
set_option maxHeartbeats 8000000 in
theorem PySem.Challenge.cw_pg0131_01_holds : PySem.Challenge.rw_pg0131_01.Holds :=
  Mine.hd (by
  k_fill
  intro w s₀ s₁ mg mb G Y fa o pm cd doc dV kV ho hd hcd hD hmg hg args vals as hpre hlay hrd hwl hlo
  have KX := kIn_of Y
  refine Ground.open G ?_
  intro T B D TE TW
  try (refine guard_noD D (by decide +kernel) ?_; clear D)
  wrow_args hpre hlay hrd hwl hlo
  rename_i ns _ _ _ _ _ _ _ l vs _ hL _ _ _ hI _ hlen _
  have W : Mine.Wd w mg mb s₁.heap := ⟨KX, T.g, T.b, T.builtins, T.nolimit⟩
  have hm : mg (Str.ofString "law") = some (.ref 87) := mg_of W.K W.g (by with_unfolding_all rfl)
  have hfa : fa = 87 := Value.ref.inj (Option.some.inj (hmg.symm.trans hm))
  subst hfa
  refine Mine.law_of (fun _ _ _ h1 h2 h3 h4 => Mine.plain h1 h2 h3 h4) W rfl (by decide) (by decide) hL hI (by omega) (.of_eq hg) fun h' tk G hk hG => ?_
  exact ⟨.inl ⟨_, _, [], rfl, fun _ => rfl, ReadsW.bool true, by clear ho hd hcd hD hmg Y; wrow_post, fun _ => ⟨List.nodup_nil, fun _ hm => (nomatch hm)⟩⟩, .of_keep hk, rfl, hG⟩)
