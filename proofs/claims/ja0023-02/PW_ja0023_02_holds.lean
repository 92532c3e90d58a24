import PyProof.Rows.All
import Wide.All
import OpenK.AllK
import Wide.FinOn
import Lean
import PySem.Challenge.RW_ja0023_02
open PySem PySem.W PyProof.Rows PySem.Calls
set_option Elab.async false
set_option linter.unusedVariables false
set_option linter.unusedSimpArgs false
set_option rowWalk.seconds 0
set_option compiler.extract_closed false
namespace Mine
/-- a frame's map, by the def's own names in their order -/
def mapOf : List Str → List (Option Value) → Str → Option Value
  | x :: ns, v :: vs, y => if y = x then v else mapOf ns vs y
  | _, _, _ => none
inductive AtN : List Str → List (Option Value) → Str → Value → Prop
  | head {x ns v vs} : AtN (x :: ns) (some v :: vs) x v
  | tail {x ns w vs y v} : AtN ns vs y v → AtN (x :: ns) (w :: vs) y v
inductive PutN : List Str → List (Option Value) → Str → Value → List (Option Value) → Prop
  | head {x ns w vs v} : PutN (x :: ns) (w :: vs) x v (some v :: vs)
  | tail {x ns w vs y v vs'} : PutN ns vs y v vs' → PutN (x :: ns) (w :: vs) y v (w :: vs')
theorem AtN.mem {ns vs y v} (h : AtN ns vs y v) : y ∈ ns := by
  induction h with
  | head => exact .head _
  | tail _ ih => exact .tail _ ih
theorem AtN.get {ns vs y v} (h : AtN ns vs y v) (nd : ns.Nodup) : mapOf ns vs y = some v := by
  induction h with
  | head => simp [mapOf]
  | @tail x ns w vs y v h ih =>
    have : y ≠ x := fun e => (List.nodup_cons.mp nd).1 (e ▸ h.mem)
    simp only [mapOf, if_neg this]
    exact ih (List.nodup_cons.mp nd).2
theorem PutN.mem {ns vs y v vs'} (h : PutN ns vs y v vs') : y ∈ ns := by
  induction h with
  | head => exact .head _
  | tail _ ih => exact .tail _ ih
theorem PutN.put {ns vs x v vs'} (h : PutN ns vs x v vs') (nd : ns.Nodup) : (fun y => if y = x then some v else mapOf ns vs y) = mapOf ns vs' := by
  induction h with
  | @head x ns w vs v => funext y; by_cases e : y = x <;> simp [mapOf, e]
  | @tail x ns w vs y v vs' h ih =>
    have hx : y ≠ x := fun e => (List.nodup_cons.mp nd).1 (e ▸ h.mem)
    have ih := ih (List.nodup_cons.mp nd).2
    funext z
    have iz := congrFun ih z
    simp only [mapOf] at iz ⊢
    by_cases e : z = x
    · subst e; rw [if_neg (Ne.symm hx), if_pos rfl, if_pos rfl]
    · rw [if_neg e, if_neg e]; exact iz
/-- binds as they come in, as a map -/
theorem enter_map : ∀ (as : List Str) (vals : List Value) (rest : List Str), as.length = vals.length → as.Nodup → (fun y => (as.zip vals).reverse.lookup y) = mapOf (as ++ rest) (vals.map some ++ rest.map fun _ => none) := by
  intro as vals rest hl nd
  have none_map : ∀ r : List Str, ∀ y, mapOf r (r.map fun _ => none) y = none := by
    intro r y
    induction r with
    | nil => rfl
    | cons z r ih => simp only [List.map_cons, mapOf]; split; rfl; exact ih
  have key : ∀ (as : List Str) (vals : List Value), as.length = vals.length → as.Nodup → ∀ y, (as.zip vals).reverse.lookup y = mapOf (as ++ rest) (vals.map some ++ rest.map fun _ => none) y := by
    intro as
    induction as with
    | nil => intro vals hl nd y; cases vals with
      | nil => exact (none_map rest y).symm
      | cons => cases hl
    | cons a as ih => intro vals hl nd y; cases vals with
      | nil => cases hl
      | cons v vals =>
        have ih := ih vals (by simpa using hl) (List.nodup_cons.mp nd).2 y
        simp only [List.zip_cons_cons, List.reverse_cons, List.cons_append, List.map_cons, mapOf]
        rw [List.lookup_append, ih]
        by_cases e : y = a
        · subst e
          rw [if_pos rfl]
          have hz : (as.zip vals).reverse.lookup y = none := by
            rw [List.lookup_eq_none_iff]
            intro p hp
            have := List.of_mem_zip (List.mem_reverse.mp hp)
            rw [bne_iff_ne]
            intro hpe
            exact (List.nodup_cons.mp nd).1 (hpe ▸ this.1)
          rw [← ih, hz]
          simp [List.lookup]
        · rw [if_neg e]
          have : List.lookup y [(a, v)] = none := by
            have hb : (y == a) = false := by simpa using e
            simp [List.lookup, hb]
          rw [this]
          simp
  exact funext (key as vals hl nd)
structure LocOk (cs : Scope) (ns gs : List Str) : Prop where
  kind : cs.kind = .function
  nodup : ns.Nodup
  loc : ∀ x ∈ ns, cs.names.lookup x = some .local ∧ (x == ("__debug__" : Str)) = false
  glob : ∀ x ∈ gs, cs.names.lookup x = some .globalImplicit ∧ (x == ("__debug__" : Str)) = false
def locOkB (cs : Scope) (ns gs : List Str) : Bool := cs.kind == .function && decide ns.Nodup && (ns.all fun x => decide (cs.names.lookup x = some .local) && !(x == ("__debug__" : Str))) && (gs.all fun x => decide (cs.names.lookup x = some .globalImplicit) && !(x == ("__debug__" : Str)))
theorem LocOk.of {cs : Scope} {ns gs : List Str} (h : locOkB cs ns gs = true) : LocOk cs ns gs := by
  simp only [locOkB, Bool.and_eq_true, List.all_eq_true, decide_eq_true_eq, Bool.not_eq_true', beq_iff_eq] at h
  exact ⟨by have := h.1.1.1; revert this; cases cs.kind <;> decide, h.1.1.2, fun x hx => h.1.2 x hx, fun x hx => h.2 x hx⟩
section
variable {M : Model} {A : Around} {E : Value → Shared → Prop} {s : Shared} {K : Frag} {h₀ : Heap} {L a : Addr} {ns gs : List Str} {vs vs' : List (Option Value)} {mg mb : Str → Option Value} {cn : Str} {cs : Scope} {ccd : Value} {p : Program} {loose : List Str} {mean : ExcName → Option Value}
  {x : Str} {pos : Pos} {v : Value} {news : List (Addr × Obj)}
theorem nameM {Q : Value → Shared → Prop} (F : Fr h₀ L s.heap (mapOf ns vs)) (O : LocOk cs ns gs) (a : AtN ns vs x v) (h : Q v s) : wpAny M A (eval (.Name x pos) (envOf cn cs L a' ccd)) Q E s :=
  wpAny_Name (wpAny_loadName_local O.kind (O.loc x a.mem).1 F.ns (a.get O.nodup) h) (O.loc x a.mem).2
theorem nameMl {Q : Value → Shared → Prop} (F : Fr h₀ L s.heap (mapOf ns vs)) (O : LocOk cs ns gs) (a : AtN ns vs x v) (h : Q v s) : wpAny M A (loadName (envOf cn cs L a' ccd) x) Q E s :=
  wpAny_loadName_local O.kind (O.loc x a.mem).1 F.ns (a.get O.nodup) h
theorem nameMG {m : Str → Option Value} {Q : Value → Shared → Prop} (F : Fr h₀ L s.heap m) (X : K.In h₀) (T : Top p loose mean mg mb h₀) (O : LocOk cs ns gs) (hx : x ∈ gs) (e : nsIn K mainGlobals x = some (some v)) (h : Q v s) : wpAny M A (eval (.Name x pos) (envOf cn cs L a' ccd)) Q E s :=
  nameX_K (cl := []) F X (topRead_of T) e h O.kind (O.glob x hx).1 (O.glob x hx).2
theorem nameMB {m : Str → Option Value} {Q : Value → Shared → Prop} (F : Fr h₀ L s.heap m) (X : K.In h₀) (T : Top p loose mean mg mb h₀) (O : LocOk cs ns gs) (hx : x ∈ gs) (e : nsIn K mainGlobals x = some none) (hv : bootBuiltins x = some v ∧ x ≠ "__name__") (h : Q v s) : wpAny M A (eval (.Name x pos) (envOf cn cs L a' ccd)) Q E s :=
  nameX_B (cl := []) F X (topRead_of T) e hv.1 hv.2 h O.kind (O.glob x hx).1 (O.glob x hx).2
theorem storeM {Q : Unit → Shared → Prop} (F : Fr h₀ L s.heap (mapOf ns vs)) (N : News h₀ L s.heap news) (O : LocOk cs ns gs) (P : PutN ns vs x v vs')
    (h : ∀ h' tk', Fr h₀ L h' (mapOf ns vs') → News h₀ L h' news → Q () { s with heap := h', toks := tk' }) : wpAny M A (storeName (envOf cn cs L a' ccd) x v) Q E s :=
  storeX_L (cl := []) F N (fun h' F' N' => h h' _ (by rw [P.put O.nodup] at F'; exact F') N') O.kind (O.loc x P.mem).1
end
section
variable {prog : Program} {w : World} {A A₀ : Around} {s : Shared} {K : Frag} {L : Addr} {h₀ base : Heap} {m mg mb : Str → Option Value} {news : List (Addr × Obj)} {p : Program} {loose : List Str} {mean : ExcName → Option Value}
theorem enterM {env : Env} {outer : List Env} {R : Result → Shared → Prop} {name qual : Str} {params : Arguments} {body : List Stmt} {scope : Scope} {dV kV doc pm cdv ct oc : Value} {an od : Option Addr} {osl : Array (Option Value)} {f : Addr} {vals : List Value}
    (as rest gs : List Str)
    (B : Below A₀ base outer h₀) (F : Fr h₀ L s.heap m) (X₀ : K.In h₀) (N : News h₀ L s.heap news) (T : Top p loose mean mg mb h₀) (hA : A.frames = some (env :: outer)) (hf : env.frame = some L) (hke : env.scope.kind = .function)
    (ho : K.lookup f = some ⟨oc, od, .func (fnOf name qual params body scope dV kV doc pm an cdv ct), osl⟩) (hcd : codeIn K cdv qual = true) (hroom : A.depth < recursionLimit)
    (hbind : bindArgs (fnOf name qual params body scope dV kV doc pm an cdv ct) ⟨vals, []⟩ = pure (as.zip vals)) (hlen : as.length = vals.length) (O : LocOk scope (as ++ rest) gs)
    (h : ∀ g L' h₁ tk, Fr h₀ L g m → Fr g L' h₁ (mapOf (as ++ rest) (vals.map some ++ rest.map fun _ => none)) → News g L' h₁ news → Below A base (env :: outer) g → K.In g → Top p loose mean mg mb g → LocOk scope (as ++ rest) gs →
      wpAny (model prog w) (A.deeper (envOf qual scope L' f cdv)) (execs body (envOf qual scope L' f cdv))
        (fun fl s' => LeaveK h₀ L m g R (match fl with | .ret v => v | _ => .none) s')
        (fun e s' => wpAny (model prog w) (A.deeper (envOf qual scope L' f cdv)) (leaving (envOf qual scope L' f cdv) e) (fun _ s'' => R (.error e) s'') (fun e' s'' => R (.error e') s'') s')
        { s with heap := h₁, toks := tk })
    (hco : scope.isCoroutine = false) (hgen : scope.isGenerator = false)
    (hcell : ∀ x ∈ scope.names, x.2 ≠ .cell) : codeAny (model prog w) A (.call (.ref f) ⟨vals, []⟩) R s := by
  have nd : as.Nodup := (List.nodup_append.mp O.nodup).1
  refine code_def (binds := as.zip vals) B F X₀ N T hA hf hke ho hcd hroom (BindsTo.of_eq hbind) ?_ (fun g L' h₁ FG F' N' B' X' T' => ?_) hco hgen O.kind hcell
  · intro y hy
    exact (O.loc y.1 (List.mem_append_left _ (List.of_mem_zip hy).1)).1
  · rw [enter_map as vals rest hlen nd] at F'
    exact h g L' h₁ _ FG F' N' B' X' T' O
end
theorem frPut {h₀ h : Heap} {L : Addr} {ns vs vs' x v} {cs : Scope} {gs : List Str} (F : Fr h₀ L h (fun y => if y = x then some v else mapOf ns vs y)) (O : LocOk cs ns gs) (P : PutN ns vs x v vs') : Fr h₀ L h (mapOf ns vs') := by
  rw [P.put O.nodup] at F; exact F
/-- the end of a loop's turn -/
def TurnM (h₀ : Heap) (L : Addr) (s₁ : Shared) (I : Addr) (it : Obj) (ns : List Str) (news : List (Addr × Obj)) (Inv : List (Option Value) → Prop) (Q : Flow → Shared → Prop) (f : Flow) (s₂ : Shared) : Prop :=
  match f with
  | .ret v => Q (.ret v) s₂
  | .brk => Q .next s₂
  | _ => ∃ h' tk vs', s₂ = { s₁ with heap := h', toks := tk } ∧ Fr h₀ L h' (mapOf ns vs') ∧ News h₀ L h' ((I, it) :: news) ∧ Inv vs'
section
variable {h₀ : Heap} {L : Addr} {s₁ : Shared} {I : Addr} {it : Obj} {ns : List Str} {news all : List (Addr × Obj)} {Inv : List (Option Value) → Prop} {Q : Flow → Shared → Prop} {s₂ : Shared}
theorem TurnM.ret {v : Value} (h : Q (.ret v) s₂) : TurnM h₀ L s₁ I it ns news Inv Q (.ret v) s₂ := h
theorem TurnM.brk (h : Q .next s₂) : TurnM h₀ L s₁ I it ns news Inv Q .brk s₂ := h
theorem TurnM.next {h' : Heap} {tk : Nat} {vs' : List (Option Value)} (F : Fr h₀ L h' (mapOf ns vs')) (N : News h₀ L h' all) (hs : ∀ p ∈ (I, it) :: news, p ∈ all) (h : Inv vs') : TurnM h₀ L s₁ I it ns news Inv Q .next { s₁ with heap := h', toks := tk } :=
  ⟨h', tk, vs', rfl, F, fun p hp => N p (hs p hp), h⟩
theorem TurnM.cont {h' : Heap} {tk : Nat} {vs' : List (Option Value)} (F : Fr h₀ L h' (mapOf ns vs')) (N : News h₀ L h' all) (hs : ∀ p ∈ (I, it) :: news, p ∈ all) (h : Inv vs') : TurnM h₀ L s₁ I it ns news Inv Q .cont { s₁ with heap := h', toks := tk } :=
  ⟨h', tk, vs', rfl, F, fun p hp => N p (hs p hp), h⟩
end
section
variable {prog : Program} {w : World} {A : Around} {E : Value → Shared → Prop} {s : Shared} {h₀ : Heap} {x : Str} {body : List Stmt} {Q : Flow → Shared → Prop} {cn : Str} {cs : Scope} {L a : Addr} {ccd : Value} {ns gs : List Str}
/-- a loop over range(a₀, b₀): Inv vs₀ i vs holds ahead of turn i -/
theorem range_invM {r : Addr} {a₀ b₀ : Int} {t₀ u₀ v₀ : Tok} {vs₀ : List (Option Value)} {news : List (Addr × Obj)} (n : Nat) (Inv : List (Option Value) → Nat → List (Option Value) → Prop)
    (hh : A.handled = none) (hr : IsRange s.heap r a₀ b₀ 1 t₀ u₀ v₀) (hsmall : Builtin.Range.small a₀ b₀ 1 = true) (hn : Builtin.Range.rangeSize a₀ b₀ 1 = (n : Int)) (F : Fr h₀ L s.heap (mapOf ns vs₀)) (N : News h₀ L s.heap news)
    (h0 : Inv vs₀ 0 vs₀)
    (turn : ∀ (I : Addr) (i : Nat) (vs : List (Option Value)) (t : Tok) (h : Heap) (tk : Nat), (∀ p ∈ news, p.1 < I) → i < n → Inv vs₀ i vs → Fr h₀ L h (fun y => if y = x then some (.int (a₀ + (i : Int)) t) else mapOf ns vs y) →
      News h₀ L h ((I, itR (a₀ + ((i + 1 : Nat) : Int)) ((n : Int) - ((i + 1 : Nat) : Int))) :: news) →
      wpAny (model prog w) A (execs body (envOf cn cs L a ccd)) (TurnM h₀ L { s with heap := h, toks := tk } I (itR (a₀ + ((i + 1 : Nat) : Int)) ((n : Int) - ((i + 1 : Nat) : Int))) ns news (Inv vs₀ (i + 1)) Q) E { s with heap := h, toks := tk })
    (done : ∀ (vs : List (Option Value)) (h : Heap) (tk : Nat), Inv vs₀ n vs → Fr h₀ L h (mapOf ns vs) → News h₀ L h news → Q .next { s with heap := h, toks := tk }) :
    wpAny (model prog w) A (pyIter (.ref r)) (fun it s₂ => LoopAtV prog w A h₀ (envOf cn cs L a ccd) x body Q E it s₂) E s := by
  refine iter_rangeUnr (env := envOf cn cs L a ccd) hh hr hsmall hn F N fun I hI => ?_
  have key : ∀ (k i : Nat) (vs : List (Option Value)), i + k = n → Inv vs₀ i vs → RangeRest prog w A E h₀ (envOf cn cs L a ccd) x body Q s I a₀ n k i (mapOf ns vs) news := by
    intro k
    induction k with
    | zero =>
      intro i vs e hi
      have e : i = n := by omega
      subst e
      exact RangeRest.zero fun h tk F' N' => done vs h tk hi F' N'
    | succ k ih =>
      intro i vs e hi
      refine RangeRest.succ fun t h tk F' N' => ?_
      refine wpAny_mono (turn I i vs t h tk hI (by omega) hi F' N') (fun f s₂ p => ?_) fun _ _ e => e
      have fin : (∃ h' tk' vs', s₂ = { { s with heap := h, toks := tk } with heap := h', toks := tk' } ∧ Fr h₀ L h' (mapOf ns vs') ∧ News h₀ L h' ((I, itR (a₀ + ((i + 1 : Nat) : Int)) ((n : Int) - ((i + 1 : Nat) : Int))) :: news) ∧ Inv vs₀ (i + 1) vs') →
          UnrEnd h₀ L { s with heap := h, toks := tk } I (itR (a₀ + ((i + 1 : Nat) : Int)) ((n : Int) - ((i + 1 : Nat) : Int))) (RangeRest prog w A E h₀ (envOf cn cs L a ccd) x body Q s I a₀ n k (i + 1)) s₂ := by
        rintro ⟨h', tk', vs', rfl, F'', N'', hI'⟩
        exact ⟨h', tk', _, news, rfl, F'', N'', fun p hp => Nat.ne_of_lt (hI p hp), ih (i + 1) vs' (by omega) hI'⟩
      cases f with
      | ret v => exact p
      | brk => exact p
      | next => exact fin p
      | cont => exact fin p
  exact key n 0 vs₀ (by omega) h0
/-- a loop over a made list of zs -/
theorem list_invM {ax : Addr} {items : List Value} {zs : List Int} {c : Nat} {vs₀ : List (Option Value)} {news : List (Addr × Obj)} (Inv : List Int → List (Option Value) → Nat → List (Option Value) → Prop)
    (hh : A.handled = none) (F : Fr h₀ L s.heap (mapOf ns vs₀)) (N : News h₀ L s.heap news) (hm : (ax, ({ cls := .type "list", data := .seq items.toArray c } : Obj)) ∈ news) (hi : IntsAre items zs)
    (h0 : Inv zs vs₀ 0 vs₀)
    (turn : ∀ (I : Addr) (it : Obj) (i : Nat) (k : Int) (vs : List (Option Value)) (t : Tok) (h : Heap) (tk : Nat), (∀ p ∈ news, p.1 < I) → zs[i]? = some k → Inv zs vs₀ i vs → Fr h₀ L h (fun y => if y = x then some (.int k t) else mapOf ns vs y) →
      News h₀ L h ((I, it) :: news) →
      wpAny (model prog w) A (execs body (envOf cn cs L a ccd)) (TurnM h₀ L { s with heap := h, toks := tk } I it ns news (Inv zs vs₀ (i + 1)) Q) E { s with heap := h, toks := tk })
    (done : ∀ (vs : List (Option Value)) (h : Heap) (tk : Nat), Inv zs vs₀ zs.length vs → Fr h₀ L h (mapOf ns vs) → News h₀ L h news → Q .next { s with heap := h, toks := tk }) :
    wpAny (model prog w) A (pyIter (.ref ax)) (fun it s₂ => LoopAtV prog w A h₀ (envOf cn cs L a ccd) x body Q E it s₂) E s := by
  refine iter_listUnr (env := envOf cn cs L a ccd) hh F N hm rfl rfl fun I hI => ?_
  have len : items.length = zs.length := hi.length
  have at' : ∀ {items : List Value} {zs : List Int}, IntsAre items zs → ∀ (i : Nat) v, items[i]? = some v → ∃ k t, zs[i]? = some k ∧ v = .int k t := by
    intro items zs hi
    induction hi with
    | nil => intro i v h; simp at h
    | cons n t _ ih =>
      intro i v h
      cases i with
      | zero => simp at h; exact ⟨n, t, by simp, h.symm⟩
      | succ i => simp at h; simpa using ih i v h
  have key : ∀ (k i : Nat) (vs : List (Option Value)), i + k = items.length → Inv zs vs₀ i vs → ListRest prog w A E h₀ (envOf cn cs L a ccd) x body Q s I (ax, ({ cls := .type "list", data := .seq items.toArray c } : Obj)) (items.drop i) (mapOf ns vs) news := by
    intro k
    induction k with
    | zero =>
      intro i vs e hi'
      have e : i = items.length := by omega
      rw [e, List.drop_length]
      exact ListRest.zero fun h tk F' N' => done vs h tk (by rw [← len, ← e]; exact hi') F' N'
    | succ k ih =>
      intro i vs e hi'
      have hlt : i < items.length := by omega
      obtain ⟨kk, t, hk, hv⟩ := at' hi i items[i] (List.getElem?_eq_getElem hlt)
      rw [List.drop_eq_getElem_cons hlt, hv]
      refine ListRest.succ fun it h tk _ F' N' => ?_
      refine wpAny_mono (turn I it i kk vs t h tk hI hk hi' F' N') (fun f s₂ p => ?_) fun _ _ e => e
      have fin : (∃ h' tk' vs', s₂ = { { s with heap := h, toks := tk } with heap := h', toks := tk' } ∧ Fr h₀ L h' (mapOf ns vs') ∧ News h₀ L h' ((I, it) :: news) ∧ Inv zs vs₀ (i + 1) vs') →
          UnrEnd h₀ L { s with heap := h, toks := tk } I it (fun m' n' => (ax, ({ cls := .type "list", data := .seq items.toArray c } : Obj)) ∈ n' ∧ ListRest prog w A E h₀ (envOf cn cs L a ccd) x body Q s I (ax, ({ cls := .type "list", data := .seq items.toArray c } : Obj)) (items.drop (i + 1)) m' n') s₂ := by
        rintro ⟨h', tk', vs', rfl, F'', N'', hI'⟩
        exact ⟨h', tk', _, news, rfl, F'', N'', fun p hp => Nat.ne_of_lt (hI p hp), hm, ih (i + 1) vs' (by omega) hI'⟩
      cases f with
      | ret v => exact p
      | brk => exact p
      | next => exact fin p
      | cont => exact fin p
  have := key items.length 0 vs₀ (by omega) h0
  rwa [List.drop_zero] at this
end
theorem range_size (a b : Int) : Builtin.Range.rangeSize a b 1 = (((b - a).toNat : Nat) : Int) := by
  unfold Builtin.Range.rangeSize
  simp only [gt_iff_lt, Int.zero_lt_one, if_true, Int.ediv_one]
  split <;> omega
theorem range_small {a b : Int} (h1 : -1000000000 ≤ a) (h2 : a ≤ 1000000000) (h3 : -1000000000 ≤ b) (h4 : b ≤ 1000000000) : Builtin.Range.small a b 1 = true := by
  have f : ∀ x : Int, -4000000000 ≤ x → x ≤ 4000000000 → Builtin.Range.rangeFitsLong x = true := by
    intro x hx hy
    unfold Builtin.Range.rangeFitsLong
    simp
    omega
  unfold Builtin.Range.small
  rw [range_size]
  simp only [f a (by omega) (by omega), f b (by omega) (by omega), f 1 (by omega) (by omega), f (((b - a).toNat : Nat) : Int) (by omega) (by omega), f (b + (1 - 1)) (by omega) (by omega), gt_iff_lt, Int.zero_lt_one, if_true, Bool.and_true, Bool.or_true]
end Mine
namespace Mine
/-- the end of a turn over written items -/
def TurnT (h₀ : Heap) (L : Addr) (s₁ : Shared) (I : Addr) (it : Obj) (ns : List Str) (news : List (Addr × Obj)) (rest : List (Option Value) → Prop) (Q : Flow → Shared → Prop) (f : Flow) (s₂ : Shared) : Prop :=
  match f with
  | .ret v => Q (.ret v) s₂
  | .brk => Q .next s₂
  | _ => ∃ h' tk vs', s₂ = { s₁ with heap := h', toks := tk } ∧ Fr h₀ L h' (mapOf ns vs') ∧ News h₀ L h' ((I, it) :: news) ∧ rest vs'
section
variable {h₀ : Heap} {L : Addr} {s₁ : Shared} {I : Addr} {it : Obj} {ns : List Str} {news all : List (Addr × Obj)} {rest : List (Option Value) → Prop} {Q : Flow → Shared → Prop} {s₂ : Shared}
theorem TurnT.ret {v : Value} (h : Q (.ret v) s₂) : TurnT h₀ L s₁ I it ns news rest Q (.ret v) s₂ := h
theorem TurnT.brk (h : Q .next s₂) : TurnT h₀ L s₁ I it ns news rest Q .brk s₂ := h
theorem TurnT.next {h' : Heap} {tk : Nat} {vs' : List (Option Value)} (F : Fr h₀ L h' (mapOf ns vs')) (N : News h₀ L h' all) (hs : ∀ p ∈ (I, it) :: news, p ∈ all) (h : rest vs') : TurnT h₀ L s₁ I it ns news rest Q .next { s₁ with heap := h', toks := tk } :=
  ⟨h', tk, vs', rfl, F, fun p hp => N p (hs p hp), h⟩
theorem TurnT.cont {h' : Heap} {tk : Nat} {vs' : List (Option Value)} (F : Fr h₀ L h' (mapOf ns vs')) (N : News h₀ L h' all) (hs : ∀ p ∈ (I, it) :: news, p ∈ all) (h : rest vs') : TurnT h₀ L s₁ I it ns news rest Q .cont { s₁ with heap := h', toks := tk } :=
  ⟨h', tk, vs', rfl, F, fun p hp => N p (hs p hp), h⟩
end
/-- the turns that are left -/
def RestT (prog : Program) (w : World) (A : Around) (E : Value → Shared → Prop) (h₀ : Heap) (env : Env) (target : PySem.Expr) (body : List Stmt) (Q : Flow → Shared → Prop) (s : Shared) (ns : List Str) (news : List (Addr × Obj)) (I : Addr) : List Value → List (Option Value) → Prop
  | [], vs => ∀ h tk, Fr h₀ env.locals h (mapOf ns vs) → News h₀ env.locals h news → Q .next { s with heap := h, toks := tk }
  | v :: r, vs => ∀ it h tk, Fr h₀ env.locals h (mapOf ns vs) → News h₀ env.locals h ((I, it) :: news) →
      wpAny (model prog w) A (assign target env v) (fun _ s₂ => wpAny (model prog w) A (execs body env) (TurnT h₀ env.locals { s with heap := h, toks := tk } I it ns news (RestT prog w A E h₀ env target body Q s ns news I r) Q) E s₂) E { s with heap := h, toks := tk }
section
variable {prog : Program} {w : World} {A : Around} {E : Value → Shared → Prop} {h₀ : Heap} {env : Env} {target : PySem.Expr} {body : List Stmt} {Q : Flow → Shared → Prop} {s : Shared} {ns : List Str} {news : List (Addr × Obj)} {I : Addr}
theorem RestT.zero {cn : Str} {cs : Scope} {L a : Addr} {ccd : Value} {vs : List (Option Value)} (h : ∀ h tk, Fr h₀ L h (mapOf ns vs) → News h₀ L h news → Q .next { s with heap := h, toks := tk }) : RestT prog w A E h₀ (envOf cn cs L a ccd) target body Q s ns news I [] vs := h
theorem RestT.turn {cn : Str} {cs : Scope} {L a : Addr} {ccd : Value} {v : Value} {r : List Value} {vs : List (Option Value)} (h : ∀ it h tk, Fr h₀ L h (mapOf ns vs) → News h₀ L h ((I, it) :: news) →
      wpAny (model prog w) A (assign target (envOf cn cs L a ccd) v) (fun _ s₂ => wpAny (model prog w) A (execs body (envOf cn cs L a ccd)) (TurnT h₀ L { s with heap := h, toks := tk } I it ns news (RestT prog w A E h₀ (envOf cn cs L a ccd) target body Q s ns news I r) Q) E s₂) E { s with heap := h, toks := tk }) :
    RestT prog w A E h₀ (envOf cn cs L a ccd) target body Q s ns news I (v :: r) vs := h
theorem restT_items {ax : Addr} {lo : Obj} {cls : String} (hm : (ax, lo) ∈ news) (hI : ∀ p ∈ news, p.1 < I) : ∀ (xs : List Value) (vs : List (Option Value)), RestT prog w A E h₀ env target body Q s ns news I xs vs →
    ItemsRest prog w A E h₀ env target body Q s [(I, cls)] [(ax, lo)] (xs.map .val) (mapOf ns vs) news
  | [], vs, hr => ItemsRest.zero fun h tk F N => hr h tk F N
  | v :: r, vs, hr => ItemsRest.val fun h tk F => AllObj.cons fun o hc => AllObj.nil fun N => by
    refine wpAny_mono (hr o h tk F N) (fun _ s₂ h₂ => wpAny_mono h₂ (fun f s₃ p => ?_) fun _ _ e => e) fun _ _ e => e
    have fin : (∃ h' tk' vs', s₃ = { { s with heap := h, toks := tk } with heap := h', toks := tk' } ∧ Fr h₀ env.locals h' (mapOf ns vs') ∧ News h₀ env.locals h' ((I, o) :: news) ∧ RestT prog w A E h₀ env target body Q s ns news I r vs') →
        UnrEndW h₀ env.locals { s with heap := h, toks := tk } [(I, o)] (fun m' n' => SubL [(ax, lo)] n' ∧ ItemsRest prog w A E h₀ env target body Q s [(I, cls)] [(ax, lo)] (r.map .val) m' n') s₃ := by
      rintro ⟨h', tk', vs', rfl, F', N', hr'⟩
      refine ⟨h', tk', mapOf ns vs', news, rfl, F', N', fun p hp q hq => ?_, And.intro hm trivial, restT_items hm hI r vs' hr'⟩
      rw [List.mem_singleton.mp hq]
      exact Nat.ne_of_lt (hI p hp)
    cases f with
    | ret v => exact p
    | brk => exact p
    | next => exact fin p
    | cont => exact fin p
theorem iter_tupT {ax : Addr} {c : Nat} {xs : List Value} {vs₀ : List (Option Value)}
    (hh : A.handled = none) (F : Fr h₀ env.locals s.heap (mapOf ns vs₀)) (N : News h₀ env.locals s.heap news) (hm : (ax, ({ cls := .type "tuple", data := .seq xs.toArray c } : Obj)) ∈ news)
    (rest : ∀ I : Addr, (∀ p ∈ news, p.1 < I) → RestT prog w A E h₀ env target body Q s ns news I xs vs₀) :
    wpAny (model prog w) A (pyIter (.ref ax)) (fun it s₂ => TurnsAt prog w A h₀ env target body Q E it s₂) E s :=
  iter_tupTurns hh F N hm rfl rfl fun I hI => restT_items hm hI xs vs₀ (rest I hI)
theorem iter_listT {ax : Addr} {c : Nat} {xs : List Value} {vs₀ : List (Option Value)}
    (hh : A.handled = none) (F : Fr h₀ env.locals s.heap (mapOf ns vs₀)) (N : News h₀ env.locals s.heap news) (hm : (ax, ({ cls := .type "list", data := .seq xs.toArray c } : Obj)) ∈ news)
    (rest : ∀ I : Addr, (∀ p ∈ news, p.1 < I) → RestT prog w A E h₀ env target body Q s ns news I xs vs₀) :
    wpAny (model prog w) A (pyIter (.ref ax)) (fun it s₂ => TurnsAt prog w A h₀ env target body Q E it s₂) E s :=
  iter_listTurns hh F N hm rfl rfl fun I hI => restT_items hm hI xs vs₀ (rest I hI)
end
theorem inplace_list {M : Model} {A : Around} {E : Value → Shared → Prop} {s : Shared} {a b : Value} {Q : Value → Shared → Prop} (ha : s.TypeIs a "list") (hb : s.TypeIs b "list")
    (hc : wpAny M A (call (.builtin "list.__iadd__") [a, b]) Q E s) : wpAny M A (inplaceOp .Add a b) Q E s := by
  unfold inplaceOp
  refine wpAny_holding ?_
  have hl : typeLookup (.type "list") (dunderI "add") = pure (some (.builtin "list.__iadd__")) := PySem.F.slot_list_iadd.lookup
  have hq : isSeqSlot (some (.builtin "list.__iadd__")) = true := by decide +kernel
  have hfi : fillsInplaceSlot (.type "list") "add" (Operator.Add == .Add) = pure false := by
    unfold fillsInplaceSlot
    show (typeLookup (.type "list") (dunderI "add") >>= fun fi => pure (fi.isSome && !isSeqSlot fi)) = pure false
    rw [hl, pure_bind, hq]; rfl
  refine wpAny_bind (wpAny_typeOf ha (wpAny_bind (wpAny_of_eq hfi ?_)))
  show wpAny M A (if false = true then _ else _) Q E s
  rw [if_neg Bool.false_ne_true]
  refine wpAny_bind (wpAny_binaryOp1_none (nm := "add") ha hb noFill_list_add ?_)
  refine wpAny_bind (wpAny_of_eq (PySem.seqSlot_of hl hq) ?_)
  exact wpAny_bind (wpAny_rule hc)
def AllGt (D : Addr) : List (Addr × Obj) → Prop
  | [] => True
  | p :: r => @LT.lt Nat _ D p.1 ∧ AllGt D r
theorem allGt_ne {D : Addr} : ∀ {l : List (Addr × Obj)}, AllGt D l → ∀ p ∈ l, p.1 ≠ D
  | [], _, _, h => nomatch h
  | q :: r, g, p, h => by
    rcases List.mem_cons.mp h with e | h
    · rw [e]; exact (Nat.ne_of_lt g.1).symm
    · exact allGt_ne g.2 p h
theorem iadd_led {prog : Program} {w : World} {A : Around} {E : Value → Shared → Prop} {s : Shared} {h₀ : Heap} {L : Addr} {m : Str → Option Value} {Q : Value → Shared → Prop} {pre post : List (Addr × Obj)} {D b : Addr} {xs ys : List Value} {n n2 : Nat}
    (F : Fr h₀ L s.heap m) (N : News h₀ L s.heap (pre ++ (D, listOf xs.toArray n) :: post)) (hb : (b, listOf ys.toArray n2) ∈ pre) (hne : ys.length ≠ 0) (hsz : xs.length + ys.length ≤ 1000)
    (a : AllGt D pre) (c : AllLt D post)
    (k : ∀ h', Fr h₀ L h' m → News h₀ L h' (pre ++ (D, listOf (xs ++ ys).toArray (n + 1)) :: post) → Q (.ref D) { s with heap := h' }) :
    wpAny (model prog w) A (inplaceOp .Add (.ref D) (.ref b)) Q E s := by
  have z := N (D, listOf xs.toArray n) (List.mem_append.mpr (.inr (.head _)))
  have zb := N _ (List.mem_append.mpr (.inl hb))
  have hz : (1000 : Nat) ≤ sizeLine := by rw [sizeLine_eq]; decide
  have c' : ∀ p ∈ post, p.1 ≠ D := fun p hp => Nat.ne_of_lt (ktn_ltOf c p hp)
  refine inplace_list ⟨_, z.1, rfl⟩ ⟨_, zb.1, rfl⟩ (call_meets PySem.F.slot_list_iadd ⟨_, z.1, rfl⟩ PySem.F.entry_list_iadd (PySem.F.args_list_iadd_2 _ _) (PySem.AutoSeq1.list___iadd___list_list_0 D xs.toArray n b ys.toArray n2 ?_ ?_ ?_) ⟨z.1, zb.1, k _ (F.change (Heap.SameBut.update ..) z.2.1 z.2.2) (kl_turn _ N (allGt_ne a) c' ?_ ?_)⟩)
  · simp only [List.size_toArray, Builtin.List.listTooLong]
    intro h
    simp at h
    omega
  · simp only [List.size_toArray]; omega
  · simp only [List.size_toArray]; omega
  · simp
  · simp
    intro h
    exact hne (by rw [h]; rfl)
end Mine
namespace Mine
def GF (c d r0 y0 : Int) (i : Nat) (r y : Int) : Prop := ∃ q : Int, y = y0 + d * q ∧ r = r0 - c * q ∧ 0 ≤ q ∧ q ≤ (i : Int) ∧ 0 ≤ r ∧ (q < (i : Int) → r < c)
theorem gf_start {c d r0 y0 : Int} (h : 0 ≤ r0) : GF c d r0 y0 0 r0 y0 := ⟨0, by omega, by omega, by omega, by omega, h, fun h => by omega⟩
theorem gf_take {c d r0 y0 r y : Int} {i : Nat} (h : GF c d r0 y0 i r y) (hc : c ≤ r) : GF c d r0 y0 (i + 1) (r - c) (y + d) := by
  obtain ⟨q, ey, er, q0, q1, _, rq⟩ := h
  have e1 : c * (q + 1) = c * q + c := by rw [Int.mul_add, Int.mul_one]
  have e2 : d * (q + 1) = d * q + d := by rw [Int.mul_add, Int.mul_one]
  exact ⟨q + 1, by omega, by omega, by omega, by omega, by omega, fun h => by have := rq (by omega); omega⟩
theorem gf_skip {c d r0 y0 r y : Int} {i : Nat} (h : GF c d r0 y0 i r y) (hc : ¬ c ≤ r) : GF c d r0 y0 (i + 1) r y := by
  obtain ⟨q, ey, er, q0, q1, h0, _⟩ := h
  exact ⟨q, ey, er, q0, by omega, h0, fun h => by omega⟩
theorem gf_nn {c d r0 y0 r y : Int} {i : Nat} (h : GF c d r0 y0 i r y) : 0 ≤ r := by
  obtain ⟨q, _, _, _, _, h0, _⟩ := h
  exact h0
def SF (zs : List Int) (r0 : Int) (i : Nat) (r mo : Int) : Prop := mo = 1 + (i : Int) ∧ r = r0 - (zs.take i).sum ∧ 0 ≤ r
theorem sf_next {zs : List Int} {r0 r mo k : Int} {i : Nat} (hk : zs[i]? = some k) (h : SF zs r0 i r mo) (h0 : ¬ r < k) : SF zs r0 (i + 1) (r - k) (mo + 1) := by
  obtain ⟨h1, h2, h3⟩ := h
  refine ⟨by omega, ?_, by omega⟩
  rw [List.take_add_one, hk]; simp; omega
section
variable {prog : Program} {w : World} {A : Around} {E : Value → Shared → Prop} {s : Shared} {h₀ : Heap} {body : List Stmt} {Q : Flow → Shared → Prop} {cn : Str} {cs : Scope} {L a : Addr} {ccd : Value} {gs : List Str} {n1 n2 n3 n4 x n6 n7 : Str} {news : List (Addr × Obj)}
/-- the three loops of _law_gregorian: rest and year, by the turns -/
theorem g_loop {r : Addr} {b₀ : Int} {t₀ u₀ v₀ : Tok} {jd rows k0 mo si : Option Value} {r0 y0 : Int} {tr ty : Tok} (c d : Int) (n : Nat)
    (hh : A.handled = none) (hr : IsRange s.heap r 0 b₀ 1 t₀ u₀ v₀) (hsmall : Builtin.Range.small 0 b₀ 1 = true) (hn : Builtin.Range.rangeSize 0 b₀ 1 = (n : Int))
    (F : Fr h₀ L s.heap (mapOf [n1, n2, n3, n4, x, n6, n7] [jd, rows, some (.int r0 tr), some (.int y0 ty), k0, mo, si])) (N : News h₀ L s.heap news) (O : LocOk cs [n1, n2, n3, n4, x, n6, n7] gs) (h0 : 0 ≤ r0)
    (turn : ∀ (I : Addr) (it : Obj) (T : Flow → Shared → Prop) (k1 : Option Value) (r y : Int) (tr ty : Tok) (h : Heap) (tk : Nat),
      (∀ (r' y' : Int) (tr' ty' : Tok) (h' : Heap) (tk' : Nat) (all : List (Addr × Obj)), Fr h₀ L h' (mapOf [n1, n2, n3, n4, x, n6, n7] [jd, rows, some (.int r' tr'), some (.int y' ty'), k1, mo, si]) → News h₀ L h' all → (∀ p ∈ (I, it) :: news, p ∈ all) → (c ≤ r ∧ r' = r - c ∧ y' = y + d ∨ ¬ c ≤ r ∧ r' = r ∧ y' = y) → T .next { s with heap := h', toks := tk' }) →
      Fr h₀ L h (mapOf [n1, n2, n3, n4, x, n6, n7] [jd, rows, some (.int r tr), some (.int y ty), k1, mo, si]) → News h₀ L h ((I, it) :: news) →
      wpAny (model prog w) A (execs body (envOf cn cs L a ccd)) T E { s with heap := h, toks := tk })
    (done : ∀ (r y : Int) (tr ty : Tok) (k1 : Option Value) (h : Heap) (tk : Nat), GF c d r0 y0 n r y → 0 ≤ r → Fr h₀ L h (mapOf [n1, n2, n3, n4, x, n6, n7] [jd, rows, some (.int r tr), some (.int y ty), k1, mo, si]) → News h₀ L h news → Q .next { s with heap := h, toks := tk }) :
    wpAny (model prog w) A (pyIter (.ref r)) (fun it s₂ => LoopAtV prog w A h₀ (envOf cn cs L a ccd) x body Q E it s₂) E s := by
  refine range_invM n (fun _ i vs => ∃ (r y : Int) (tr ty : Tok) (k1 : Option Value), vs = [jd, rows, some (.int r tr), some (.int y ty), k1, mo, si] ∧ GF c d r0 y0 i r y) hh hr hsmall hn F N ⟨r0, y0, tr, ty, k0, rfl, gf_start h0⟩ ?_ ?_
  · rintro I i vs t h tk hI hi ⟨r, y, tr, ty, k1, rfl, g⟩ F' N'
    have F'' := frPut F' O (.tail (.tail (.tail (.tail .head))))
    refine turn I _ _ _ r y tr ty h tk ?_ F'' N'
    rintro r' y' tr' ty' h' tk' all Fa Na hs hc
    refine TurnM.next Fa Na hs ⟨r', y', tr', ty', _, rfl, ?_⟩
    rcases hc with ⟨a, rfl, rfl⟩ | ⟨a, rfl, rfl⟩
    · exact gf_take g a
    · exact gf_skip g a
  · rintro vs h tk ⟨r, y, tr, ty, k1, rfl, g⟩ F' N'
    exact done r y tr ty k1 h tk g (gf_nn g) F' N'
/-- the loop over the months' sizes -/
theorem s_loop {ax : Addr} {items : List Value} {zs : List Int} {c : Nat} {jd rows yr k s0 : Option Value} {r0 : Int} {tr tm : Tok}
    (hh : A.handled = none) (F : Fr h₀ L s.heap (mapOf [n1, n2, n3, n4, n6, n7, x] [jd, rows, some (.int r0 tr), yr, k, some (.int 1 tm), s0])) (N : News h₀ L s.heap news) (O : LocOk cs [n1, n2, n3, n4, n6, n7, x] gs) (hm : (ax, ({ cls := .type "list", data := .seq items.toArray c } : Obj)) ∈ news) (hi : IntsAre items zs) (h0 : 0 ≤ r0)
    (no : ∀ r mo, SF zs r0 zs.length r mo → False)
    (turn : ∀ (I : Addr) (it : Obj) (T : Flow → Shared → Prop) (r mo z : Int) (tr tm tz : Tok) (h : Heap) (tk : Nat),
      (∀ (h' : Heap) (tk' : Nat) (all : List (Addr × Obj)), r < z → Fr h₀ L h' (mapOf [n1, n2, n3, n4, n6, n7, x] [jd, rows, some (.int r tr), yr, k, some (.int mo tm), some (.int z tz)]) → News h₀ L h' all → (∀ p ∈ (I, it) :: news, p ∈ all) → T .brk { s with heap := h', toks := tk' }) →
      (∀ (tr' tm' : Tok) (h' : Heap) (tk' : Nat) (all : List (Addr × Obj)), ¬ r < z → Fr h₀ L h' (mapOf [n1, n2, n3, n4, n6, n7, x] [jd, rows, some (.int (r - z) tr'), yr, k, some (.int (mo + 1) tm'), some (.int z tz)]) → News h₀ L h' all → (∀ p ∈ (I, it) :: news, p ∈ all) → T .next { s with heap := h', toks := tk' }) →
      Fr h₀ L h (mapOf [n1, n2, n3, n4, n6, n7, x] [jd, rows, some (.int r tr), yr, k, some (.int mo tm), some (.int z tz)]) → News h₀ L h ((I, it) :: news) →
      wpAny (model prog w) A (execs body (envOf cn cs L a ccd)) T E { s with heap := h, toks := tk })
    (fin : ∀ (i : Nat) (r mo z : Int) (tr tm : Tok) (s1 : Option Value) (h : Heap) (tk : Nat), zs[i]? = some z → SF zs r0 i r mo → r < z → Fr h₀ L h (mapOf [n1, n2, n3, n4, n6, n7, x] [jd, rows, some (.int r tr), yr, k, some (.int mo tm), s1]) → News h₀ L h news → Q .next { s with heap := h, toks := tk }) :
    wpAny (model prog w) A (pyIter (.ref ax)) (fun it s₂ => LoopAtV prog w A h₀ (envOf cn cs L a ccd) x body Q E it s₂) E s := by
  refine list_invM (fun _ _ i vs => ∃ (r mo : Int) (tr tm : Tok) (s1 : Option Value), vs = [jd, rows, some (.int r tr), yr, k, some (.int mo tm), s1] ∧ SF zs r0 i r mo) hh F N hm hi ⟨r0, 1, tr, tm, s0, rfl, by simp [SF, h0]⟩ ?_ ?_
  · rintro I it i z vs t h tk hI hz ⟨r, mo, tr, tm, s1, rfl, g⟩ F' N'
    have F'' := frPut F' O (.tail (.tail (.tail (.tail (.tail (.tail .head))))))
    refine turn I it _ r mo z tr tm t h tk ?_ ?_ F'' N'
    · rintro h' tk' all hlt Fa Na hs
      refine TurnM.brk ?_
      exact fin i r mo z tr tm _ h' tk' hz g hlt Fa (fun p hp => Na p (hs p (List.mem_cons_of_mem _ hp)))
    · rintro tr' tm' h' tk' all hlt Fa Na hs
      exact TurnM.next Fa Na hs ⟨_, _, tr', tm', _, rfl, sf_next hz g hlt⟩
  · rintro vs h tk ⟨r, mo, tr, tm, s1, rfl, g⟩ F' N'
    exact (no r mo g).elim
end
end Mine
namespace Mine
def LeapG (y : Int) : Prop := y % 4 = 0 ∧ (y % 100 ≠ 0 ∨ y % 400 = 0)
def LegalG (y m d : Int) : Prop := 0 < d ∧ ((m = 2 ∧ LeapG y ∧ d ≤ 29) ∨ (m = 2 ∧ ¬ LeapG y ∧ d ≤ 28) ∨ ((m = 4 ∨ m = 6 ∨ m = 9 ∨ m = 11) ∧ d ≤ 30) ∨ ((m ≠ 2 ∧ m ≠ 4 ∧ m ≠ 6 ∧ m ≠ 9 ∧ m ≠ 11) ∧ d ≤ 31))
def JGs (y m d v : Int) : Prop := ∃ k, (m ≤ 2 → k = 0) ∧ (2 < m → LeapG y → k = -1) ∧ (2 < m → ¬ LeapG y → k = -2) ∧
  v = 1721425 + 365 * (y - 1) + (y - 1) / 4 - (y - 1) / 100 + (y - 1) / 400 + ((367 * m - 362) / 12 + k + d)
def IsDate (jd y m d : Int) : Prop := 1 ≤ m ∧ m ≤ 12 ∧ LegalG y m d ∧ JGs y m d jd
/-- the days ahead of January 1 -/
def J0 (y : Int) : Int := 1721426 + 365 * (y - 1) + (y - 1) / 4 - (y - 1) / 100 + (y - 1) / 400
/-- the year's length, a month's length and its first day's place, by the leap year -/
def kOf (l : Bool) (m : Int) : Int := if m ≤ 2 then 0 else if l = true then -1 else -2
def lenOf (l : Bool) (m : Int) : Int := if m = 2 then (if l = true then 29 else 28) else if m = 4 ∨ m = 6 ∨ m = 9 ∨ m = 11 then 30 else 31
def staOf (l : Bool) (m : Int) : Int := (367 * m - 362) / 12 + kOf l m
theorem J0_is (y : Int) : 1721425 + 365 * (y - 1) + (y - 1) / 4 - (y - 1) / 100 + (y - 1) / 400 = J0 y - 1 := by unfold J0; omega
theorem leapB (y : Int) : ∃ l : Bool, l = true ↔ LeapG y := by
  by_cases h : LeapG y
  · exact ⟨true, by simp [h]⟩
  · exact ⟨false, by simp [h]⟩
theorem jgs_eq {y m d v : Int} {l : Bool} (hl : l = true ↔ LeapG y) (h : JGs y m d v) : v = J0 y - 1 + (staOf l m + d) := by
  obtain ⟨k, h1, h2, h3, h4⟩ := h
  rw [J0_is] at h4
  have : k = kOf l m := by
    unfold kOf
    split
    · rename_i h; exact h1 h
    · rename_i h
      have h : 2 < m := by omega
      split
      · rename_i h'; exact h2 h (hl.mp h')
      · rename_i h'; exact h3 h (fun x => h' (hl.mpr x))
  subst this
  exact h4
theorem jgs_mk {y m d v : Int} {l : Bool} (hl : l = true ↔ LeapG y) (h : v = J0 y - 1 + (staOf l m + d)) : JGs y m d v := by
  refine ⟨kOf l m, fun h => if_pos h, fun h h' => ?_, fun h h' => ?_, by rw [J0_is]; exact h⟩
  · unfold kOf; rw [if_neg (by omega), if_pos (hl.mpr h')]
  · unfold kOf; rw [if_neg (by omega), if_neg (fun x => h' (hl.mp x))]
theorem legal_mk {y m d : Int} {l : Bool} (hl : l = true ↔ LeapG y) (h0 : 0 < d) (h : d ≤ lenOf l m) : LegalG y m d := by
  refine ⟨h0, ?_⟩
  unfold lenOf at h
  split at h
  · rename_i e
    split at h
    · rename_i h'; exact .inl ⟨e, hl.mp h', h⟩
    · rename_i h'; exact .inr (.inl ⟨e, fun x => h' (hl.mpr x), h⟩)
  · rename_i e
    split at h
    · rename_i h'; exact .inr (.inr (.inl ⟨h', h⟩))
    · rename_i h'
      simp only [not_or] at h'
      exact .inr (.inr (.inr ⟨⟨e, h'⟩, h⟩))
theorem legal_eq {y m d : Int} {l : Bool} (hl : l = true ↔ LeapG y) (h : LegalG y m d) : 0 < d ∧ d ≤ lenOf l m := by
  obtain ⟨h0, h⟩ := h
  refine ⟨h0, ?_⟩
  unfold lenOf
  rcases h with ⟨e, h', h⟩ | ⟨e, h', h⟩ | ⟨e, h⟩ | ⟨⟨e1, e2⟩, h⟩
  · rw [if_pos e, if_pos (hl.mpr h')]; exact h
  · rw [if_pos e, if_neg (fun x => h' (hl.mp x))]; exact h
  · rw [if_neg (by rcases e with e | e | e | e <;> (subst e; decide)), if_pos e]; exact h
  · rw [if_neg e1, if_neg (by simp only [not_or]; exact e2)]; exact h
theorem jgs_jan {y v : Int} (h : JGs y 1 1 v) : v = J0 y := by
  obtain ⟨k, h1, _, _, h4⟩ := h
  have := h1 (by omega)
  unfold J0; omega
theorem qdiv {x n q r : Int} (h : x = r + n * q) (h0 : 0 ≤ r) (h1 : r < n) : x / n = q := by
  rw [h, Int.add_mul_ediv_left _ _ (by omega), Int.ediv_eq_zero_of_lt h0 h1, Int.zero_add]
theorem qmod {x n q r : Int} (h : x = r + n * q) (h0 : 0 ≤ r) (h1 : r < n) : x % n = r := by
  rw [h, Int.add_mul_emod_self_left, Int.emod_eq_of_lt h0 h1]
theorem j0_core {Y a b c d : Int} (h : Y = 400 * a + 100 * b + 4 * c + d + 1) (b0 : 0 ≤ b) (b1 : b ≤ 3) (c0 : 0 ≤ c) (c1 : c ≤ 24) (d0 : 0 ≤ d) (d1 : d ≤ 3) :
    J0 Y = 1721426 + 146097 * a + 36524 * b + 1461 * c + 365 * d ∧ (d = 3 → c ≠ 24 ∨ b = 3 → LeapG Y) := by
  constructor
  · unfold J0
    rw [qdiv (n := 4) (q := 100 * a + 25 * b + c) (r := d) (by omega) d0 (by omega), qdiv (n := 100) (q := 4 * a + b) (r := 4 * c + d) (by omega) (by omega) (by omega), qdiv (n := 400) (q := a) (r := 100 * b + 4 * c + d) (by omega) (by omega) (by omega)]
    omega
  · intro e k
    subst e
    refine ⟨by rw [qmod (n := 4) (q := 100 * a + 25 * b + c + 1) (r := 0) (by omega) (by decide) (by decide)], ?_⟩
    rcases k with k | k
    · left
      rw [qmod (n := 100) (q := 4 * a + b) (r := 4 * c + 4) (by omega) (by omega) (by omega)]
      omega
    · by_cases e : c = 24
      · right
        subst e k
        rw [qmod (n := 400) (q := a + 1) (r := 0) (by omega) (by decide) (by decide)]
      · left
        rw [qmod (n := 100) (q := 4 * a + b) (r := 4 * c + 4) (by omega) (by omega) (by omega)]
        omega
theorem qr {x n q r : Int} (hn : 0 < n) (hq : q = x / n) (hr : r = x % n) : x = r + n * q ∧ 0 ≤ r ∧ r < n := by
  rw [hq, hr]
  exact ⟨(Int.emod_add_mul_ediv x n).symm, Int.emod_nonneg _ (by omega), Int.emod_lt_of_pos _ hn⟩
theorem year_fin {jd v7 v6 v5 v4 v3 v2 v1 Y : Int} (h7 : v7 = (jd - 1721426) / 146097) (h6 : v6 = (jd - 1721426) % 146097) (h5 : v5 = v6 / 36524) (h4 : v4 = v6 % 36524)
    (h3 : v3 = v4 / 1461) (h2 : v2 = v4 % 1461) (h1 : v1 = v2 / 365) (hY : ((v5 = 4 ∨ v1 = 4) ∧ Y = v7 * 400 + v5 * 100 + v3 * 4 + v1) ∨ (v5 ≠ 4 ∧ v1 ≠ 4 ∧ Y = v7 * 400 + v5 * 100 + v3 * 4 + v1 + 1)) :
    0 ≤ jd - J0 Y ∧ jd - J0 Y ≤ 365 ∧ (jd - J0 Y = 365 → LeapG Y) := by
  have a1 := qr (by decide) h7 h6
  have a2 := qr (by decide) h5 h4
  have a3 := qr (by decide) h3 h2
  have a4 := qr (by decide) h1 rfl
  revert a4
  generalize v2 % 365 = v0
  intro a4
  clear h7 h6 h5 h4 h3 h2 h1
  rcases hY with ⟨hc | hc, hY⟩ | ⟨hc1, hc2, hY⟩
  · subst hc
    obtain ⟨e3, e1⟩ : v3 = 0 ∧ v1 = 0 := by omega
    subst e3 e1
    have k := j0_core (Y := Y) (a := v7) (b := 3) (c := 24) (d := 3) (by omega) (by decide) (by decide) (by decide) (by decide) (by decide) (by decide)
    have l := k.2 rfl (.inr rfl)
    rw [k.1]
    exact ⟨by omega, by omega, fun _ => l⟩
  · subst hc
    have k := j0_core (Y := Y) (a := v7) (b := v5) (c := v3) (d := 3) (by omega) (by omega) (by omega) (by omega) (by omega) (by decide) (by decide)
    have l := k.2 rfl (.inl (by omega))
    rw [k.1]
    exact ⟨by omega, by omega, fun _ => l⟩
  · have k := (j0_core (Y := Y) (a := v7) (b := v5) (c := v3) (d := v1) (by omega) (by omega) (by omega) (by omega) (by omega) (by omega) (by omega)).1
    rw [k]
    exact ⟨by omega, by omega, fun x => by omega⟩
def AdjOk (Y jd j1 adj : Int) : Prop := (LeapG Y ∧ jd - j1 < 59 ∧ adj = 0) ∨ (LeapG Y ∧ ¬ jd - j1 < 59 ∧ adj = 1) ∨ (¬ LeapG Y ∧ jd - j1 < 58 ∧ adj = 0) ∨ (¬ LeapG Y ∧ ¬ jd - j1 < 58 ∧ adj = 2)
theorem adj1 {Y jd j1 : Int} (h : LeapG Y) (h2 : jd - j1 < 58 + (if true = true then 1 else 0)) : AdjOk Y jd j1 0 := .inl ⟨h, by simp only [if_true] at h2; omega, rfl⟩
theorem adj2 {Y jd j1 : Int} (h : LeapG Y) (h2 : ¬ jd - j1 < 58 + (if true = true then 1 else 0)) : AdjOk Y jd j1 1 := .inr (.inl ⟨h, by simp only [if_true] at h2; omega, rfl⟩)
theorem adj3 {Y jd j1 : Int} (h : ¬ LeapG Y) (h2 : jd - j1 < 58 + (if false = true then 1 else 0)) : AdjOk Y jd j1 0 := .inr (.inr (.inl ⟨h, by simp only [Bool.false_eq_true, if_false] at h2; omega, rfl⟩))
theorem adj4 {Y jd j1 : Int} (h : ¬ LeapG Y) (h2 : ¬ jd - j1 < 58 + (if false = true then 1 else 0)) : AdjOk Y jd j1 2 := .inr (.inr (.inr ⟨h, by simp only [Bool.false_eq_true, if_false] at h2; omega, rfl⟩))
def adjT (l : Bool) (n : Int) : Int := if l = true then (if n < 59 then 0 else 1) else (if n < 58 then 0 else 2)
def moT (l : Bool) (n : Int) : Int := ((n + adjT l n) * 12 + 373) / 367
theorem tabT : ∀ l : Bool, ∀ n : Fin 366, (l = false → n.val < 365) → 1 ≤ moT l (n.val : Int) ∧ moT l (n.val : Int) ≤ 12 ∧ 0 < (n.val : Int) + 1 - staOf l (moT l (n.val : Int)) ∧ (n.val : Int) + 1 - staOf l (moT l (n.val : Int)) ≤ lenOf l (moT l (n.val : Int)) := by decide +kernel
theorem fromJd_fin {jd Y j1 j2 mo adj : Int} (hy : 0 ≤ jd - J0 Y ∧ jd - J0 Y ≤ 365 ∧ (jd - J0 Y = 365 → LeapG Y)) (hj1 : JGs Y 1 1 j1)
    (ha : AdjOk Y jd j1 adj)
    (hm : mo = ((jd - j1 + adj) * 12 + 373) / 367) (hj2 : JGs Y mo 1 j2) : IsDate jd Y mo (jd - j2 + 1) := by
  have e1 := jgs_jan hj1
  subst e1
  obtain ⟨l, hl⟩ := leapB Y
  obtain ⟨y1, y2, y3⟩ := hy
  obtain ⟨n, hn⟩ : ∃ n : Nat, (n : Int) = jd - J0 Y := ⟨(jd - J0 Y).toNat, Int.toNat_of_nonneg y1⟩
  have hadj : adj = adjT l (n : Int) := by
    rw [hn]
    unfold adjT
    rcases ha with ⟨a, b, c⟩ | ⟨a, b, c⟩ | ⟨a, b, c⟩ | ⟨a, b, c⟩
    · rw [if_pos (hl.mpr a), if_pos b]; exact c
    · rw [if_pos (hl.mpr a), if_neg b]; exact c
    · rw [if_neg (fun x => a (hl.mp x)), if_pos b]; exact c
    · rw [if_neg (fun x => a (hl.mp x)), if_neg b]; exact c
  rw [← hn] at y2 y3 hm
  subst hadj
  have hmo : mo = moT l (n : Int) := hm
  clear hm ha
  have lt : n < 366 := by omega
  have t := tabT l ⟨n, lt⟩ (fun hf => by
    rcases Nat.lt_or_ge n 365 with h | h
    · exact h
    · have : l = true := hl.mpr (y3 (by omega))
      rw [hf] at this; cases this)
  simp only at t
  rw [← hmo] at t
  obtain ⟨t1, t2, t3, t4⟩ := t
  have e2 := jgs_eq hl hj2
  have ed : jd - j2 + 1 = (n : Int) + 1 - staOf l mo := by omega
  rw [ed]
  exact ⟨t1, t2, legal_mk hl t3 t4, jgs_mk hl (by omega)⟩
def sizesOf (b : Bool) : List Int := [31, if b = true then 29 else 28, 31, 30, 31, 30, 31, 31, 30, 31, 30, 31]
/-- the law's day count: the year by hundreds, fours and ones -/
theorem lawG_year {jd q r y0 y1 y2 y3 r1 r2 r3 q1 q2 q3 : Int} (hq : q = (jd - 1721426) / 146097) (hr : r = (jd - 1721426) % 146097) (hy0 : y0 = 400 * q + 1)
    (e1 : y1 = y0 + 100 * q1) (f1 : r1 = r - 36524 * q1) (a1 : 0 ≤ q1) (b1 : q1 ≤ 3) (c1 : 0 ≤ r1) (d1 : q1 < 3 → r1 < 36524)
    (e2 : y2 = y1 + 4 * q2) (f2 : r2 = r1 - 1461 * q2) (a2 : 0 ≤ q2) (b2 : q2 ≤ 24) (c2 : 0 ≤ r2) (d2 : q2 < 24 → r2 < 1461)
    (e3 : y3 = y2 + 1 * q3) (f3 : r3 = r2 - 365 * q3) (a3 : 0 ≤ q3) (b3 : q3 ≤ 3) (c3 : 0 ≤ r3) (d3 : q3 < 3 → r3 < 365) :
    r3 = jd - J0 y3 ∧ r3 ≤ 365 ∧ (r3 = 365 → LeapG y3) := by
  obtain ⟨h1, h2, h3⟩ := qr (by decide) hq hr
  clear hq hr
  subst hy0 e1 e2 e3 f1 f2 f3
  have k := j0_core (Y := 400 * q + 1 + 100 * q1 + 4 * q2 + 1 * q3) (a := q) (b := q1) (c := q2) (d := q3) (by omega) a1 b1 a2 b2 a3 b3
  refine ⟨by rw [k.1]; omega, by omega, fun e => k.2 (by omega) (by omega)⟩
theorem tabS : ∀ b : Bool, ∀ i : Fin 12, ((sizesOf b).take i.val).sum = staOf b (1 + (i.val : Int)) ∧ (sizesOf b)[i.val]? = some (lenOf b (1 + (i.val : Int))) := by decide +kernel
theorem tabE : ∀ b : Bool, ((sizesOf b).take (sizesOf b).length).sum = if b = true then 366 else 365 := by decide +kernel
theorem lawG_fin {jd y3 r3 mo r k : Int} {b : Bool} {i : Nat} (hy : r3 = jd - J0 y3 ∧ r3 ≤ 365 ∧ (r3 = 365 → LeapG y3)) (hl : (LeapG y3 ∧ b = true) ∨ (¬ LeapG y3 ∧ b = false))
    (hk : (sizesOf b)[i]? = some k) (hm : mo = 1 + (i : Int)) (hr : r = r3 - ((sizesOf b).take i).sum) (h0 : 0 ≤ r) (hlt : r < k) : IsDate jd y3 mo (r + 1) := by
  obtain ⟨h1, h2, h3⟩ := hy
  have hi : i < 12 := by
    have := (List.getElem?_eq_some_iff.mp hk).1
    simpa [sizesOf] using this
  have hb : b = true ↔ LeapG y3 := by
    rcases hl with ⟨a, rfl⟩ | ⟨a, rfl⟩
    · simp [a]
    · simp [a]
  obtain ⟨t1, t2⟩ := tabS b ⟨i, hi⟩
  simp only at t1 t2
  rw [t2] at hk
  have ek := Option.some.inj hk
  rw [t1, ← hm] at hr
  rw [← hm] at ek
  clear t1 t2 hk
  refine ⟨by omega, by omega, legal_mk hb (by omega) (by omega), jgs_mk hb (by omega)⟩
theorem lawG_no {jd y3 r3 r : Int} {b : Bool} (hy : r3 = jd - J0 y3 ∧ r3 ≤ 365 ∧ (r3 = 365 → LeapG y3)) (hl : (LeapG y3 ∧ b = true) ∨ (¬ LeapG y3 ∧ b = false))
    (hr : r = r3 - ((sizesOf b).take (sizesOf b).length).sum) (h0 : 0 ≤ r) : False := by
  obtain ⟨h1, h2, h3⟩ := hy
  rw [tabE] at hr
  rcases hl with ⟨hl, rfl⟩ | ⟨hl, rfl⟩
  · simp only [if_true] at hr; omega
  · have hne : r3 ≠ 365 := fun h => hl (h3 h)
    simp only [Bool.false_eq_true, if_false] at hr; omega
theorem J0_mono {y y' : Int} (h : y < y') : J0 (y + 1) ≤ J0 y' := by
  unfold J0; omega
theorem J0_leap {y : Int} (h : LeapG y) : J0 (y + 1) = J0 y + 366 := by
  unfold J0 LeapG at *; omega
theorem J0_plain {y : Int} (h : ¬ LeapG y) : J0 (y + 1) = J0 y + 365 := by
  unfold J0 LeapG at *; omega
theorem tabD : ∀ l : Bool, ∀ i : Fin 12, 0 ≤ staOf l (1 + (i.val : Int)) ∧ staOf l (1 + (i.val : Int)) + lenOf l (1 + (i.val : Int)) ≤ (if l = true then 366 else 365) ∧ ∀ j : Fin 12, i.val < j.val → staOf l (1 + (i.val : Int)) + lenOf l (1 + (i.val : Int)) ≤ staOf l (1 + (j.val : Int)) := by decide +kernel
theorem month_in {m : Int} (h1 : 1 ≤ m) (h2 : m ≤ 12) : ∃ i : Fin 12, m = 1 + (i.val : Int) := ⟨⟨(m - 1).toNat, by omega⟩, by simp only; omega⟩
theorem date_year {s y m d : Int} (h : IsDate s y m d) : J0 y ≤ s ∧ s < J0 (y + 1) := by
  obtain ⟨m1, m2, hd, hj⟩ := h
  obtain ⟨l, hl⟩ := leapB y
  have e := jgs_eq hl hj
  have f := legal_eq hl hd
  obtain ⟨i, rfl⟩ := month_in m1 m2
  obtain ⟨t1, t2, _⟩ := tabD l i
  have e2 : J0 (y + 1) = J0 y + (if l = true then 366 else 365) := by
    split
    · rename_i h; exact J0_leap (hl.mp h)
    · rename_i h; exact J0_plain (fun x => h (hl.mpr x))
  rw [e2]
  clear e2 hl hd hj
  omega
theorem date_lt {s y m d m' d' : Int} (h : IsDate s y m d) (h' : IsDate s y m' d') : ¬ m < m' := by
  intro hlt
  obtain ⟨m1, m2, hd, hj⟩ := h
  obtain ⟨n1, n2, hd', hj'⟩ := h'
  obtain ⟨l, hl⟩ := leapB y
  have e := jgs_eq hl hj
  have f := legal_eq hl hd
  have e' := jgs_eq hl hj'
  have f' := legal_eq hl hd'
  obtain ⟨i, rfl⟩ := month_in m1 m2
  obtain ⟨j, rfl⟩ := month_in n1 n2
  have t := (tabD l i).2.2 j (by omega)
  clear hl hd hj hd' hj' m1 m2 n1 n2
  omega
theorem date_unique {s y m d y' m' d' : Int} (h : IsDate s y m d) (h' : IsDate s y' m' d') : y = y' ∧ m = m' ∧ d = d' := by
  have a := date_year h
  have b := date_year h'
  have hy : y = y' := by
    rcases Int.lt_trichotomy y y' with x | x | x
    · have := J0_mono x; omega
    · exact x
    · have := J0_mono x; omega
  subst hy
  have hm : m = m' := by
    have c1 := date_lt h h'
    have c2 := date_lt h' h
    omega
  subst hm
  obtain ⟨l, hl⟩ := leapB y
  have e := jgs_eq hl h.2.2.2
  have e' := jgs_eq hl h'.2.2.2
  exact ⟨rfl, rfl, by omega⟩
end Mine
namespace Mine
def LeapH (y : Int) : Prop := (y * 7 + 1) % 19 < 7
/-- the months ahead of a year -/
def Mo (y : Int) : Int := (235 * y - 234) / 19
def D1 (y : Int) : Int := if 3 * (Mo y * 29 + (12084 + 13753 * Mo y) / 25920 + 1) % 7 < 3 then Mo y * 29 + (12084 + 13753 * Mo y) / 25920 + 1 else Mo y * 29 + (12084 + 13753 * Mo y) / 25920
def D2 (y : Int) : Int := if D1 (y + 1) - D1 y = 356 then 2 else if D1 y - D1 (y - 1) = 382 then 1 else 0
/-- the day of the new year -/
def NY (y : Int) : Int := 347998 + D1 y + D2 y
theorem by19 (y : Int) : ∃ q : Int, ∃ r : Fin 19, y = 19 * q + (r.val : Int) := ⟨y / 19, ⟨(y % 19).toNat, by omega⟩, by dsimp only; omega⟩
theorem tabL : ∀ r : Fin 19, ((r.val : Int) * 7 + 1) % 19 < 7 ↔ ((r.val : Int) % 19 = 0 ∨ (r.val : Int) % 19 = 3 ∨ (r.val : Int) % 19 = 6 ∨ (r.val : Int) % 19 = 8 ∨ (r.val : Int) % 19 = 11 ∨ (r.val : Int) % 19 = 14 ∨ (r.val : Int) % 19 = 17) := by decide +kernel
theorem leap19 (q r : Int) : (((19 * q + r) * 7 + 1) % 19 < 7) = ((r * 7 + 1) % 19 < 7) := by
  have e : (19 * q + r) * 7 + 1 = r * 7 + 1 + 19 * (q * 7) := by omega
  rw [e, Int.add_mul_emod_self_left]
theorem mod19 (q r : Int) : (19 * q + r) % 19 = r % 19 := by rw [Int.add_comm, Int.add_mul_emod_self_left]
theorem leapH_mod {y : Int} : LeapH y ↔ (y % 19 = 0 ∨ y % 19 = 3 ∨ y % 19 = 6 ∨ y % 19 = 8 ∨ y % 19 = 11 ∨ y % 19 = 14 ∨ y % 19 = 17) := by
  obtain ⟨q, r, rfl⟩ := by19 y
  unfold LeapH
  rw [leap19, mod19]
  exact tabL r
theorem tabM : ∀ r : Fin 19, (((r.val : Int) * 7 + 1) % 19 < 7 ∧ (235 * (r.val : Int) + 1) / 19 = (235 * (r.val : Int) - 234) / 19 + 13) ∨ (¬ ((r.val : Int) * 7 + 1) % 19 < 7 ∧ (235 * (r.val : Int) + 1) / 19 = (235 * (r.val : Int) - 234) / 19 + 12) := by decide +kernel
theorem mo_next (y : Int) : (LeapH y ∧ Mo (y + 1) = Mo y + 13) ∨ (¬ LeapH y ∧ Mo (y + 1) = Mo y + 12) := by
  obtain ⟨q, r, rfl⟩ := by19 y
  unfold LeapH Mo
  have e1 : 235 * (19 * q + (r.val : Int) + 1) - 234 = 235 * (r.val : Int) + 1 + 19 * (235 * q) := by omega
  have e2 : 235 * (19 * q + (r.val : Int)) - 234 = 235 * (r.val : Int) - 234 + 19 * (235 * q) := by omega
  rw [leap19, e1, e2, Int.add_mul_ediv_left _ _ (by decide), Int.add_mul_ediv_left _ _ (by decide)]
  rcases tabM r with ⟨a, b⟩ | ⟨a, b⟩
  · exact .inl ⟨a, by rw [b, Int.add_right_comm]⟩
  · exact .inr ⟨a, by rw [b, Int.add_right_comm]⟩
theorem mo_plain {y : Int} (h : ¬ LeapH y) : Mo (y + 1) = Mo y + 12 := by
  rcases mo_next y with ⟨a, _⟩ | ⟨_, b⟩
  · exact absurd a h
  · exact b
theorem mo_leap {y : Int} (h : LeapH y) : Mo (y + 1) = Mo y + 13 := by
  rcases mo_next y with ⟨_, b⟩ | ⟨a, _⟩
  · exact b
  · exact absurd h a
theorem d1_fin1 {y m p : Int} (hm : m = (235 * y - 234) / 19) (hp : p = (12084 + 13753 * m) / 25920) (h : 3 * (m * 29 + p + 1) % 7 < 3) : m * 29 + p + 1 = D1 y := by
  have e : Mo y = m := hm.symm
  unfold D1; rw [e, ← hp, if_pos h]
theorem d1_fin2 {y m p : Int} (hm : m = (235 * y - 234) / 19) (hp : p = (12084 + 13753 * m) / 25920) (h : ¬ 3 * (m * 29 + p + 1) % 7 < 3) : m * 29 + p = D1 y := by
  have e : Mo y = m := hm.symm
  unfold D1; rw [e, ← hp, if_neg h]
theorem d2_range (y : Int) : 0 ≤ D2 y ∧ D2 y ≤ 2 := by
  unfold D2; split
  · omega
  · split <;> omega
theorem d1_range (y : Int) : Mo y * 29 + (12084 + 13753 * Mo y) / 25920 ≤ D1 y ∧ D1 y ≤ Mo y * 29 + (12084 + 13753 * Mo y) / 25920 + 1 := by
  unfold D1; split <;> omega
theorem d_pos {y : Int} (h : 1 ≤ y) : 0 ≤ D1 y ∧ 0 ≤ D2 y := by
  refine ⟨?_, (d2_range y).1⟩
  have h1 := (d1_range y).1
  have h2 : 0 ≤ Mo y := by unfold Mo; omega
  omega
/-- the length of a year, of a month -/
def YD (y : Int) : Int := NY (y + 1) - NY y
def MLp (y m n : Int) : Prop := ((m = 2 ∨ m = 4 ∨ m = 6 ∨ m = 10 ∨ m = 13) ∧ n = 29) ∨ (m = 12 ∧ ((LeapH y ∧ n = 30) ∨ (¬ LeapH y ∧ n = 29))) ∨ (m = 8 ∧ ((YD y % 10 = 5 ∧ n = 30) ∨ (YD y % 10 ≠ 5 ∧ n = 29))) ∨ (m = 9 ∧ ((YD y % 10 = 3 ∧ n = 29) ∨ (YD y % 10 ≠ 3 ∧ n = 30))) ∨ ((m = 1 ∨ m = 3 ∨ m = 5 ∨ m = 7 ∨ m = 11) ∧ n = 30)
open Classical in
noncomputable def ML (y m : Int) : Int := if m = 2 ∨ m = 4 ∨ m = 6 ∨ m = 10 ∨ m = 13 then 29 else if m = 12 then (if LeapH y then 30 else 29) else if m = 8 then (if YD y % 10 = 5 then 30 else 29) else if m = 9 then (if YD y % 10 = 3 then 29 else 30) else 30
theorem ml_of {y m n : Int} (h : MLp y m n) : n = ML y m := by
  unfold MLp at h
  unfold ML
  rcases h with ⟨h, e⟩ | ⟨h, h' | h'⟩ | ⟨h, h' | h'⟩ | ⟨h, h' | h'⟩ | ⟨h, e⟩
  · rw [if_pos h]; exact e
  · subst h; simp [h'.1]; exact h'.2
  · subst h; simp [h'.1]; exact h'.2
  · subst h; simp [h'.1]; exact h'.2
  · subst h; simp [h'.1]; exact h'.2
  · subst h; simp [h'.1]; exact h'.2
  · subst h; simp [h'.1]; exact h'.2
  · rcases h with h | h | h | h | h <;> (subst h; simp; exact e)
/-- n months from month a on -/
noncomputable def SM (y a : Int) : Nat → Int
  | 0 => 0
  | n + 1 => SM y a n + ML y (a + (n : Int))
theorem ml_range (y m : Int) : 29 ≤ ML y m ∧ ML y m ≤ 30 := by
  unfold ML
  repeat' split
  all_goals omega
theorem sm_pos (y a : Int) : ∀ n, 0 ≤ SM y a n
  | 0 => by simp [SM]
  | n + 1 => by
    have := sm_pos y a n
    have := (ml_range y (a + (n : Int))).1
    simp only [SM]; omega
open Classical in
noncomputable def YM (y : Int) : Int := if LeapH y then 13 else 12
noncomputable def Bef (y m : Int) : Int := if m < 7 then SM y 7 (YM y + 1 - 7).toNat + SM y 1 (m - 1).toNat else SM y 7 (m - 7).toNat
/-- the day of a Hebrew date -/
noncomputable def HJ (y m d : Int) : Int := NY y + Bef y m + d - 1
theorem ym_of {y v : Int} (h : (LeapH y ∧ v = 13) ∨ (¬ LeapH y ∧ v = 12)) : v = YM y := by
  unfold YM
  rcases h with ⟨h, e⟩ | ⟨h, e⟩
  · rw [if_pos h]; exact e
  · rw [if_neg h]; exact e
def InY (jd y : Int) : Prop := J0 y ≤ jd ∧ jd < J0 (y + 1)
theorem inY_of {jd y m d : Int} (h : IsDate jd y m d) : InY jd y := date_year h
theorem not_inY {jd Y y m d : Int} (h : IsDate jd Y m d) (hne : Y ≠ y) : ¬ InY jd y := by
  intro hi
  have a := date_year h
  unfold InY at hi
  rcases Int.lt_trichotomy Y y with x | x | x
  · have := J0_mono x; omega
  · exact hne x
  · have := J0_mono x; omega
theorem legal_of {jd y m d : Int} (h : IsDate jd y m d) : LegalG y m d := h.2.2.1
theorem jgs_of_date {jd y m d v : Int} (h : IsDate jd y m d) (h2 : JGs y m d v) : v = jd := by
  obtain ⟨_, _, _, k, a1, a2, a3, a4⟩ := h
  obtain ⟨q, b1, b2, b3, b4⟩ := h2
  have : k = q := by
    by_cases hm : m ≤ 2
    · rw [a1 hm, b1 hm]
    · by_cases hl : LeapG y
      · rw [a2 (by omega) hl, b2 (by omega) hl]
      · rw [a3 (by omega) hl, b3 (by omega) hl]
  subst this
  omega
/-- the Hebrew date's day in a Gregorian year -/
def Wit (g m d v : Int) : Prop := (InY (HJ (g + 3760) m d) g ∧ v = HJ (g + 3760) m d) ∨ (¬ InY (HJ (g + 3760) m d) g ∧ InY (HJ (g + 3760 + 1) m d) g ∧ v = HJ (g + 3760 + 1) m d)
def NoW (g m d : Int) : Prop := ¬ InY (HJ (g + 3760) m d) g ∧ ¬ InY (HJ (g + 3760 + 1) m d) g
theorem wit1 {g m d j Y a b v : Int} (hj : j = HJ (g + 3760) m d) (hd : IsDate j Y a b) (hY : Y = g) (hv : JGs Y a b v) : Wit g m d v := by
  subst hY
  have := jgs_of_date hd hv
  subst hj this
  exact .inl ⟨inY_of hd, rfl⟩
theorem wit2 {g m d j j' Y Y' a b a' b' v : Int} (hj : j = HJ (g + 3760) m d) (hd : IsDate j Y a b) (hne : Y ≠ g) (hj' : j' = HJ (g + 3760 + 1) m d) (hd' : IsDate j' Y' a' b') (hY : Y' = g) (hv : JGs Y' a' b' v) : Wit g m d v := by
  subst hY
  have := jgs_of_date hd' hv
  subst hj hj' this
  exact .inr ⟨not_inY hd hne, inY_of hd', rfl⟩
theorem noW {g m d j j' Y Y' a b a' b' : Int} (hj : j = HJ (g + 3760) m d) (hd : IsDate j Y a b) (hne : Y ≠ g) (hj' : j' = HJ (g + 3760 + 1) m d) (hd' : IsDate j' Y' a' b') (hne' : Y' ≠ g) : NoW g m d := by
  subst hj hj'
  exact ⟨not_inY hd hne, not_inY hd' hne'⟩
def thirB (y : Int) : Bool := decide ((y * 7 + 1) % 19 < 7)
theorem thirB_iff {y : Int} : thirB y = true ↔ LeapH y := by unfold thirB LeapH; simp
def thirG (l : List Int) (k : Int) : List Int := if thirB k = true then l ++ [k] else l
theorem cnt_next {n : Int} : (((1 + n) * 7 + 1) % 19 < 7 → (7 * (n + 1) + 1) / 19 = (7 * n + 1) / 19 + 1) ∧ (¬ ((1 + n) * 7 + 1) % 19 < 7 → (7 * (n + 1) + 1) / 19 = (7 * n + 1) / 19) := by
  obtain ⟨q, r, h, h0, h1⟩ : ∃ q r : Int, 7 * n + 8 = 19 * q + r ∧ 0 ≤ r ∧ r < 19 := ⟨(7 * n + 8) / 19, (7 * n + 8) % 19, by omega, by omega, by omega⟩
  have e1 : ((1 + n) * 7 + 1) % 19 = r := by omega
  have e2 : (7 * (n + 1) + 1) / 19 = q := by omega
  rw [e1, e2]
  constructor
  · intro hr; omega
  · intro hr; omega
theorem tab7 : ∀ r : Fin 7, (3 * (r.val : Int) % 7 < 3) ↔ ((r.val : Int) % 7 = 0 ∨ (r.val : Int) % 7 = 3 ∨ (r.val : Int) % 7 = 5) := by decide +kernel
theorem by7 (A : Int) : ∃ q : Int, ∃ r : Fin 7, A = 7 * q + (r.val : Int) := ⟨A / 7, ⟨(A % 7).toNat, by omega⟩, by dsimp only; omega⟩
theorem mod7 (q r : Int) : (7 * q + r) % 7 = r % 7 := by rw [Int.add_comm, Int.add_mul_emod_self_left]
theorem seven3 (A : Int) : (3 * A % 7 < 3) ↔ (A % 7 = 0 ∨ A % 7 = 3 ∨ A % 7 = 5) := by
  obtain ⟨q, r, rfl⟩ := by7 A
  have e : 3 * (7 * q + (r.val : Int)) = 7 * (3 * q) + 3 * (r.val : Int) := by omega
  rw [e, mod7, mod7]
  exact tab7 r
theorem thir_len : ∀ n : Nat, ((((List.range n).map fun (i : Nat) => (1 : Int) + (i : Int)).foldl thirG []).length : Int) = (7 * (n : Int) + 1) / 19
  | 0 => by decide
  | n + 1 => by
    have ih := thir_len n
    rw [List.range_succ, List.map_append, List.foldl_append]
    simp only [List.map_cons, List.map_nil, List.foldl_cons, List.foldl_nil]
    generalize (List.foldl thirG [] ((List.range n).map fun (i : Nat) => (1 : Int) + (i : Int))) = l at *
    unfold thirG thirB
    split
    · rename_i h
      simp only [decide_eq_true_eq] at h
      have c := cnt_next.1 h
      simp only [List.length_append, List.length_cons, List.length_nil]
      push_cast
      rw [c]
      omega
    · rename_i h
      simp only [decide_eq_true_eq] at h
      have c := cnt_next.2 h
      push_cast
      rw [c]
      exact ih
theorem moons_is {y q r : Int} (hq : q = (y - 1) / 19) (hr : r = (y - 1) % 19) : 235 * q + 12 * r + (7 * ((r + 1 - 1).toNat : Int) + 1) / 19 = Mo y := by
  unfold Mo
  have h0 : 0 ≤ r ∧ r < 19 := by omega
  have e : ((r + 1 - 1).toNat : Int) = r := by omega
  rw [e]
  have hy : y = 19 * q + r + 1 := by omega
  subst hy
  clear hq hr e
  omega
/-- the law's day ahead of the last rule -/
theorem d1_next {A m u : Int} (h : A * 25920 + u = 765433 * m + 38004) (h0 : 0 ≤ u) (h1 : u < 25920) {y : Int} (hm : Mo y = m) : (A % 7 = 0 ∨ A % 7 = 3 ∨ A % 7 = 5) ∧ D1 y = A ∨ ¬ (A % 7 = 0 ∨ A % 7 = 3 ∨ A % 7 = 5) ∧ D1 y = A - 1 := by
  have e : m * 29 + (12084 + 13753 * m) / 25920 = A - 1 := by omega
  unfold D1
  rw [hm, e]
  have : A - 1 + 1 = A := by omega
  rw [this]
  split
  · rename_i h
    exact .inl ⟨(seven3 A).mp h, rfl⟩
  · rename_i h
    exact .inr ⟨fun x => h ((seven3 A).mpr x), rfl⟩
def S7 (A : Int) : Prop := A % 7 = 0 ∨ A % 7 = 3 ∨ A % 7 = 5
theorem tab2 : ∀ r : Fin 7, ∀ c : Fin 4, ∀ p p' : Bool, (p = true ↔ S7 (r.val : Int)) → (p' = true ↔ S7 ((r.val : Int) + ([354, 355, 383, 384] : List Int).getD c.val 0)) →
    (([354, 355, 383, 384] : List Int).getD c.val 0 - (if p' = true then 0 else 1) + (if p = true then 0 else 1) = 356 ↔ ([354, 355, 383, 384] : List Int).getD c.val 0 = 355 ∧ (r.val : Int) % 7 = 2) ∧
    (([354, 355, 383, 384] : List Int).getD c.val 0 - (if p' = true then 0 else 1) + (if p = true then 0 else 1) = 382 ↔ ([354, 355, 383, 384] : List Int).getD c.val 0 = 383 ∧ ((r.val : Int) + ([354, 355, 383, 384] : List Int).getD c.val 0) % 7 = 1) := by unfold S7; decide +kernel
theorem s7_mod (q r : Int) : S7 (7 * q + r) = S7 r := by unfold S7; rw [mod7]
theorem d1_bit {A y : Int} (h : S7 A ∧ D1 y = A ∨ ¬ S7 A ∧ D1 y = A - 1) : ∃ p : Bool, (p = true ↔ S7 A) ∧ D1 y = A - (if p = true then 0 else 1) := by
  rcases h with ⟨a, b⟩ | ⟨a, b⟩
  · exact ⟨true, by simp only [a], by rw [b, if_pos rfl, Int.sub_zero]⟩
  · exact ⟨false, by simp only [a, Bool.false_eq_true], by rw [b, if_neg Bool.false_ne_true]⟩
theorem d1_two {A A' c : Int} {y y' : Int} (h : S7 A ∧ D1 y = A ∨ ¬ S7 A ∧ D1 y = A - 1) (h' : S7 A' ∧ D1 y' = A' ∨ ¬ S7 A' ∧ D1 y' = A' - 1) (e : A' = A + c) (hc : c = 354 ∨ c = 355 ∨ c = 383 ∨ c = 384) :
    (D1 y' - D1 y = 356 ↔ c = 355 ∧ A % 7 = 2) ∧ (D1 y' - D1 y = 382 ↔ c = 383 ∧ A' % 7 = 1) := by
  obtain ⟨p, hp, e1⟩ := d1_bit h
  obtain ⟨p', hp', e2⟩ := d1_bit h'
  obtain ⟨q, r, rfl⟩ := by7 A
  obtain ⟨i, hi⟩ : ∃ i : Fin 4, c = ([354, 355, 383, 384] : List Int).getD i.val 0 := by
    rcases hc with e | e | e | e
    · exact ⟨0, e⟩
    · exact ⟨1, e⟩
    · exact ⟨2, e⟩
    · exact ⟨3, e⟩
  subst e
  rw [Int.add_assoc, s7_mod] at hp'
  rw [s7_mod] at hp
  have t := tab2 r i p p' hp (by rw [hi] at hp'; exact hp')
  rw [← hi] at t
  have e3 : D1 y' - D1 y = c - (if p' = true then 0 else 1) + (if p = true then 0 else 1) := by rw [e1, e2]; omega
  rw [e3, Int.add_assoc, mod7, mod7]
  exact t
theorem step_A {A u A' u' m c k : Int} (h : A * 25920 + u = 765433 * m + 38004) (h0 : 0 ≤ u) (h1 : u < 25920) (h' : A' * 25920 + u' = 765433 * (m + c) + 38004) (h0' : 0 ≤ u') (h1' : u' < 25920) (hc : c = 12 ∧ k = 354 ∨ c = 13 ∧ k = 383) :
    (c = 12 → (u < 16404 ∧ A' = A + 354 ∨ 16404 ≤ u ∧ A' = A + 355)) ∧ (c = 13 → (A' = A + 383 ∧ 23269 ≤ u' ∨ A' = A + 384 ∧ u' < 23269)) := by
  constructor
  · intro e; subst e; omega
  · intro e; subst e; omega
/-- the function's second delay, by the law's rules -/
theorem d2_is {A u y : Int} (h : A * 25920 + u = 765433 * Mo y + 38004) (h0 : 0 ≤ u) (h1 : u < 25920) :
    (D1 (y + 1) - D1 y = 356 ↔ ¬ LeapH y ∧ A % 7 = 2 ∧ 16404 ≤ u) ∧ (D1 y - D1 (y - 1) = 382 ↔ LeapH (y - 1) ∧ A % 7 = 1 ∧ 23269 ≤ u) := by
  have d := d1_next h h0 h1 (y := y) rfl
  constructor
  · obtain ⟨B, v, hB, b0, b1⟩ : ∃ B v : Int, B * 25920 + v = 765433 * Mo (y + 1) + 38004 ∧ 0 ≤ v ∧ v < 25920 := ⟨(765433 * Mo (y + 1) + 38004) / 25920, (765433 * Mo (y + 1) + 38004) % 25920, by omega, by omega, by omega⟩
    have d' := d1_next hB b0 b1 (y := y + 1) rfl
    rcases mo_next y with ⟨l, hm⟩ | ⟨l, hm⟩
    · rw [hm] at hB
      rcases (step_A (k := 383) h h0 h1 hB b0 b1 (.inr ⟨rfl, rfl⟩)).2 rfl with ⟨e, _⟩ | ⟨e, _⟩
      · have t := (d1_two d d' e (by decide)).1
        exact ⟨fun x => absurd (t.mp x).1 (by decide), fun x => absurd l x.1⟩
      · have t := (d1_two d d' e (by decide)).1
        exact ⟨fun x => absurd (t.mp x).1 (by decide), fun x => absurd l x.1⟩
    · rw [hm] at hB
      rcases (step_A (k := 354) h h0 h1 hB b0 b1 (.inl ⟨rfl, rfl⟩)).1 rfl with ⟨w, e⟩ | ⟨w, e⟩
      · have t := (d1_two d d' e (by decide)).1
        exact ⟨fun x => absurd (t.mp x).1 (by decide), fun x => by have := x.2.2; omega⟩
      · have t := (d1_two d d' e (by decide)).1
        exact ⟨fun x => ⟨l, (t.mp x).2, w⟩, fun x => t.mpr ⟨rfl, x.2.1⟩⟩
  · obtain ⟨B, v, hB, b0, b1⟩ : ∃ B v : Int, B * 25920 + v = 765433 * Mo (y - 1) + 38004 ∧ 0 ≤ v ∧ v < 25920 := ⟨(765433 * Mo (y - 1) + 38004) / 25920, (765433 * Mo (y - 1) + 38004) % 25920, by omega, by omega, by omega⟩
    have d' := d1_next hB b0 b1 (y := y - 1) rfl
    have ey : y - 1 + 1 = y := by omega
    have mn := mo_next (y - 1)
    rw [ey] at mn
    rcases mn with ⟨l, hm⟩ | ⟨l, hm⟩
    · rw [hm] at h
      rcases (step_A (k := 383) hB b0 b1 h h0 h1 (.inr ⟨rfl, rfl⟩)).2 rfl with ⟨e, w⟩ | ⟨e, w⟩
      · have t := (d1_two d' d e (by decide)).2
        exact ⟨fun x => ⟨l, (t.mp x).2, w⟩, fun x => t.mpr ⟨rfl, x.2.1⟩⟩
      · have t := (d1_two d' d e (by decide)).2
        exact ⟨fun x => absurd (t.mp x).1 (by decide), fun x => by have := x.2.2; omega⟩
    · rw [hm] at h
      rcases (step_A (k := 354) hB b0 b1 h h0 h1 (.inl ⟨rfl, rfl⟩)).1 rfl with ⟨w, e⟩ | ⟨w, e⟩
      · have t := (d1_two d' d e (by decide)).2
        exact ⟨fun x => absurd (t.mp x).1 (by decide), fun x => absurd x.1 l⟩
      · have t := (d1_two d' d e (by decide)).2
        exact ⟨fun x => absurd (t.mp x).1 (by decide), fun x => absurd x.1 l⟩
/-- the last rule -/
def Last (d v : Int) : Prop := S7 d ∧ v = d + 1 ∨ ¬ S7 d ∧ v = d
theorem ny_plain {A u y v : Int} (h : A * 25920 + u = 765433 * Mo y + 38004) (h0 : 0 ≤ u) (h1 : u < 25920) (n1 : ¬ (¬ LeapH y ∧ A % 7 = 2 ∧ 16404 ≤ u)) (n2 : ¬ (LeapH (y - 1) ∧ A % 7 = 1 ∧ 23269 ≤ u)) (hv : Last A v) : 347997 + v = NY y := by
  have d := d1_next h h0 h1 (y := y) rfl
  obtain ⟨t1, t2⟩ := d2_is h h0 h1
  have e : D2 y = 0 := by
    unfold D2
    rw [if_neg (fun x => n1 (t1.mp x)), if_neg (fun x => n2 (t2.mp x))]
  unfold NY
  rw [e]
  rcases d with ⟨a, b⟩ | ⟨a, b⟩ <;> rcases hv with ⟨c, e'⟩ | ⟨c, e'⟩
  · rw [b, e']; omega
  · exact absurd a c
  · exact absurd c a
  · rw [b, e']; omega
theorem ny_a {q r y v : Int} (hq : q = (31524 + 765433 * Mo y) / 25920) (hr : r = (31524 + 765433 * Mo y) % 25920) (h : 18 * 1080 ≤ r) (hv : Last (q + 1) v) : 347997 + v = NY y :=
  ny_plain (A := q + 1) (u := r - 19440) (by omega) (by omega) (by omega) (fun x => by have := x.2.2; omega) (fun x => by have := x.2.2; omega) hv
theorem ny_b {q r y v : Int} (hq : q = (31524 + 765433 * Mo y) / 25920) (hr : r = (31524 + 765433 * Mo y) % 25920) (h : ¬ 18 * 1080 ≤ r) (hl : ¬ LeapH y) (h7 : q % 7 = 2) (hp : 9 * 1080 + 204 ≤ r) (hv : Last (q + 1) v) : 347997 + v = NY y := by
  have hA : q * 25920 + (r + 6480) = 765433 * Mo y + 38004 := by omega
  obtain ⟨t1, t2⟩ := d2_is hA (by omega) (by omega)
  have e : D2 y = 2 := by unfold D2; rw [if_pos (t1.mpr ⟨hl, h7, by omega⟩)]
  have d := d1_next hA (by omega) (by omega) (y := y) rfl
  unfold NY
  rw [e]
  clear hq hr hA t1 t2 e
  unfold Last S7 at hv
  omega
theorem ny_c {q r y v : Int} (hq : q = (31524 + 765433 * Mo y) / 25920) (hr : r = (31524 + 765433 * Mo y) % 25920) (h : ¬ 18 * 1080 ≤ r) (hl : LeapH (y - 1)) (h7 : q % 7 = 1) (hp : 15 * 1080 + 589 ≤ r) (hv : Last (q + 1) v) : 347997 + v = NY y := by
  have hA : q * 25920 + (r + 6480) = 765433 * Mo y + 38004 := by omega
  obtain ⟨t1, t2⟩ := d2_is hA (by omega) (by omega)
  have e : D2 y = 1 := by unfold D2; rw [if_neg (fun x => by have := (t1.mp x).2.1; omega), if_pos (t2.mpr ⟨hl, h7, by omega⟩)]
  have d := d1_next hA (by omega) (by omega) (y := y) rfl
  unfold NY
  rw [e]
  clear hq hr hA t1 t2 e
  unfold Last S7 at hv
  omega
theorem ny_d {q r y v : Int} (hq : q = (31524 + 765433 * Mo y) / 25920) (hr : r = (31524 + 765433 * Mo y) % 25920) (h : ¬ 18 * 1080 ≤ r) (n1 : LeapH y ∨ q % 7 ≠ 2 ∨ ¬ 9 * 1080 + 204 ≤ r) (n2 : ¬ LeapH (y - 1) ∨ q % 7 ≠ 1 ∨ ¬ 15 * 1080 + 589 ≤ r) (hv : Last q v) : 347997 + v = NY y :=
  ny_plain (A := q) (u := r + 6480) (by omega) (by omega) (by omega)
    (fun x => by
      rcases n1 with a | a | a
      · exact x.1 a
      · exact a x.2.1
      · have := x.2.2; omega)
    (fun x => by
      rcases n2 with a | a | a
      · exact a x.1
      · exact a x.2.1
      · have := x.2.2; omega) hv
theorem yd_bounds (y : Int) : (350 ≤ YD y ∧ YD y ≤ 359) ∨ (380 ≤ YD y ∧ YD y ≤ 389) := by
  have a := d1_range y
  have b := d1_range (y + 1)
  have c := d2_range y
  have d := d2_range (y + 1)
  unfold YD NY
  rcases mo_next y with ⟨_, e⟩ | ⟨_, e⟩
  · rw [e] at b
    right; omega
  · rw [e] at b
    left; omega
/-- the row's two sizes that the year's length tells -/
def Sz1 (z n : Int) : Prop := (z = 355 ∨ z = 385) ∧ n = 30 ∨ ¬ (z = 355 ∨ z = 385) ∧ n = 29
def Sz2 (z n : Int) : Prop := (z = 353 ∨ z = 383) ∧ n = 29 ∨ ¬ (z = 353 ∨ z = 383) ∧ n = 30
theorem sz1_ml {y n : Int} (h : Sz1 (YD y) n) : ML y 8 = n := by
  have b := yd_bounds y
  unfold Sz1 at h
  unfold ML
  rw [if_neg (by decide), if_neg (by decide), if_pos rfl]
  split <;> omega
theorem sz2_ml {y n : Int} (h : Sz2 (YD y) n) : ML y 9 = n := by
  have b := yd_bounds y
  unfold Sz2 at h
  unfold ML
  rw [if_neg (by decide), if_neg (by decide), if_neg (by decide), if_pos rfl]
  split <;> omega
theorem ml_even {y m : Int} (h : m = 2 ∨ m = 4 ∨ m = 6 ∨ m = 10 ∨ m = 13) : ML y m = 29 := by unfold ML; rw [if_pos h]
theorem ml_odd {y m : Int} (h : m = 1 ∨ m = 3 ∨ m = 5 ∨ m = 7 ∨ m = 11) : ML y m = 30 := by
  unfold ML
  rcases h with h | h | h | h | h <;> (subst h; rw [if_neg (by decide), if_neg (by decide), if_neg (by decide), if_neg (by decide)])
theorem ml_12 {y : Int} : (LeapH y → ML y 12 = 30) ∧ (¬ LeapH y → ML y 12 = 29) := by
  unfold ML
  rw [if_neg (by decide), if_pos rfl]
  exact ⟨fun h => if_pos h, fun h => if_neg h⟩
/-- the sums of the months from the seventh on, and from the first on -/
theorem sm7 {y a b : Int} (h8 : ML y 8 = a) (h9 : ML y 9 = b) : SM y 7 0 = 0 ∧ SM y 7 1 = 30 ∧ SM y 7 2 = 30 + a ∧ SM y 7 3 = 30 + a + b ∧ SM y 7 4 = 30 + a + b + 29 ∧ SM y 7 5 = 30 + a + b + 29 + 30 ∧ SM y 7 6 = 30 + a + b + 29 + 30 + ML y 12 ∧ SM y 7 7 = 30 + a + b + 29 + 30 + ML y 12 + 29 := by
  have e7 : ML y (7 + (0 : Nat)) = 30 := ml_odd (by decide)
  have e8 : ML y (7 + (1 : Nat)) = a := h8
  have e9 : ML y (7 + (2 : Nat)) = b := h9
  have e10 : ML y (7 + (3 : Nat)) = 29 := ml_even (by decide)
  have e11 : ML y (7 + (4 : Nat)) = 30 := ml_odd (by decide)
  have e12 : ML y (7 + (5 : Nat)) = ML y 12 := rfl
  have e13 : ML y (7 + (6 : Nat)) = 29 := ml_even (by decide)
  simp only [SM, e7, e8, e9, e10, e11, e12, e13, Int.zero_add, and_self]
theorem sm1 (y : Int) : SM y 1 0 = 0 ∧ SM y 1 1 = 30 ∧ SM y 1 2 = 59 ∧ SM y 1 3 = 89 ∧ SM y 1 4 = 118 ∧ SM y 1 5 = 148 := by
  have e1 : ML y (1 + (0 : Nat)) = 30 := ml_odd (by decide)
  have e2 : ML y (1 + (1 : Nat)) = 29 := ml_even (by decide)
  have e3 : ML y (1 + (2 : Nat)) = 30 := ml_odd (by decide)
  have e4 : ML y (1 + (3 : Nat)) = 29 := ml_even (by decide)
  have e5 : ML y (1 + (4 : Nat)) = 30 := ml_odd (by decide)
  simp only [SM, e1, e2, e3, e4, e5, Int.zero_add]
  decide
theorem hj_late {y m d : Int} {n : Nat} (h : m = 7 + (n : Int)) : HJ y m d = NY y + SM y 7 n + d - 1 := by
  unfold HJ Bef
  rw [if_neg (by omega)]
  have : (m - 7).toNat = n := by omega
  rw [this]
theorem hj_early {y m d : Int} {n : Nat} (h : m = 1 + (n : Int)) (h6 : n < 6) : (LeapH y → HJ y m d = NY y + (SM y 7 7 + SM y 1 n) + d - 1) ∧ (¬ LeapH y → HJ y m d = NY y + (SM y 7 6 + SM y 1 n) + d - 1) := by
  unfold HJ Bef
  rw [if_pos (by omega)]
  have e : (m - 1).toNat = n := by omega
  rw [e]
  unfold YM
  constructor
  · intro hl; rw [if_pos hl]; rfl
  · intro hl; rw [if_neg hl]; rfl
def InRow (y m : Int) : Prop := (1 ≤ m ∧ m ≤ 12) ∨ (m = 13 ∧ LeapH y)
theorem eL7 {y m d i a b : Int} (h1 : Sz1 (YD y) a) (h2 : Sz2 (YD y) b) (hl : LeapH y) (hi : i = NY y) (hm : 7 = m) : InRow y m ∧ i + d - 1 = HJ y m d := by
  subst hm hi
  refine ⟨.inl ⟨by decide, by decide⟩, ?_⟩
  have e := (sm7 (sz1_ml h1) (sz2_ml h2)).1
  rw [hj_late (m := 7) (n := 0) rfl, e]
  omega
theorem eL8 {y m d i a b : Int} (h1 : Sz1 (YD y) a) (h2 : Sz2 (YD y) b) (hl : LeapH y) (hi : i = NY y) (hm : 8 = m) : InRow y m ∧ i + 30 + d - 1 = HJ y m d := by
  subst hm hi
  refine ⟨.inl ⟨by decide, by decide⟩, ?_⟩
  have e := (sm7 (sz1_ml h1) (sz2_ml h2)).2.1
  rw [hj_late (m := 8) (n := 1) rfl, e]
theorem eL9 {y m d i a b : Int} (h1 : Sz1 (YD y) a) (h2 : Sz2 (YD y) b) (hl : LeapH y) (hi : i = NY y) (hm : 9 = m) : InRow y m ∧ i + 30 + a + d - 1 = HJ y m d := by
  subst hm hi
  refine ⟨.inl ⟨by decide, by decide⟩, ?_⟩
  have e := (sm7 (sz1_ml h1) (sz2_ml h2)).2.2.1
  rw [hj_late (m := 9) (n := 2) rfl, e]
  omega
theorem eL10 {y m d i a b : Int} (h1 : Sz1 (YD y) a) (h2 : Sz2 (YD y) b) (hl : LeapH y) (hi : i = NY y) (hm : 10 = m) : InRow y m ∧ i + 30 + a + b + d - 1 = HJ y m d := by
  subst hm hi
  refine ⟨.inl ⟨by decide, by decide⟩, ?_⟩
  have e := (sm7 (sz1_ml h1) (sz2_ml h2)).2.2.2.1
  rw [hj_late (m := 10) (n := 3) rfl, e]
  omega
theorem eL11 {y m d i a b : Int} (h1 : Sz1 (YD y) a) (h2 : Sz2 (YD y) b) (hl : LeapH y) (hi : i = NY y) (hm : 11 = m) : InRow y m ∧ i + 30 + a + b + 29 + d - 1 = HJ y m d := by
  subst hm hi
  refine ⟨.inl ⟨by decide, by decide⟩, ?_⟩
  have e := (sm7 (sz1_ml h1) (sz2_ml h2)).2.2.2.2.1
  rw [hj_late (m := 11) (n := 4) rfl, e]
  omega
theorem eL12 {y m d i a b : Int} (h1 : Sz1 (YD y) a) (h2 : Sz2 (YD y) b) (hl : LeapH y) (hi : i = NY y) (hm : 12 = m) : InRow y m ∧ i + 30 + a + b + 29 + 30 + d - 1 = HJ y m d := by
  subst hm hi
  refine ⟨.inl ⟨by decide, by decide⟩, ?_⟩
  have e := (sm7 (sz1_ml h1) (sz2_ml h2)).2.2.2.2.2.1
  rw [hj_late (m := 12) (n := 5) rfl, e]
  omega
theorem eL13 {y m d i a b : Int} (h1 : Sz1 (YD y) a) (h2 : Sz2 (YD y) b) (hl : LeapH y) (hi : i = NY y) (hm : 13 = m) : InRow y m ∧ i + 30 + a + b + 29 + 30 + 30 + d - 1 = HJ y m d := by
  subst hm hi
  refine ⟨.inr ⟨rfl, hl⟩, ?_⟩
  have e := (sm7 (sz1_ml h1) (sz2_ml h2)).2.2.2.2.2.2.1
  rw [ml_12.1 hl] at e
  rw [hj_late (m := 13) (n := 6) rfl, e]
  omega
theorem eL1 {y m d i a b : Int} (h1 : Sz1 (YD y) a) (h2 : Sz2 (YD y) b) (hl : LeapH y) (hi : i = NY y) (hm : 1 = m) : InRow y m ∧ i + 30 + a + b + 29 + 30 + 30 + 29 + d - 1 = HJ y m d := by
  subst hm hi
  refine ⟨.inl ⟨by decide, by decide⟩, ?_⟩
  have r := (sm1 y).1
  have e := (sm7 (sz1_ml h1) (sz2_ml h2)).2.2.2.2.2.2.2
  rw [ml_12.1 hl] at e
  rw [(hj_early (m := 1) (n := 0) rfl (by decide)).1 hl, e, r]; omega
theorem eL2 {y m d i a b : Int} (h1 : Sz1 (YD y) a) (h2 : Sz2 (YD y) b) (hl : LeapH y) (hi : i = NY y) (hm : 2 = m) : InRow y m ∧ i + 30 + a + b + 29 + 30 + 30 + 29 + 30 + d - 1 = HJ y m d := by
  subst hm hi
  refine ⟨.inl ⟨by decide, by decide⟩, ?_⟩
  have r := (sm1 y).2.1
  have e := (sm7 (sz1_ml h1) (sz2_ml h2)).2.2.2.2.2.2.2
  rw [ml_12.1 hl] at e
  rw [(hj_early (m := 2) (n := 1) rfl (by decide)).1 hl, e, r]; omega
theorem eL3 {y m d i a b : Int} (h1 : Sz1 (YD y) a) (h2 : Sz2 (YD y) b) (hl : LeapH y) (hi : i = NY y) (hm : 3 = m) : InRow y m ∧ i + 30 + a + b + 29 + 30 + 30 + 29 + 30 + 29 + d - 1 = HJ y m d := by
  subst hm hi
  refine ⟨.inl ⟨by decide, by decide⟩, ?_⟩
  have r := (sm1 y).2.2.1
  have e := (sm7 (sz1_ml h1) (sz2_ml h2)).2.2.2.2.2.2.2
  rw [ml_12.1 hl] at e
  rw [(hj_early (m := 3) (n := 2) rfl (by decide)).1 hl, e, r]; omega
theorem eL4 {y m d i a b : Int} (h1 : Sz1 (YD y) a) (h2 : Sz2 (YD y) b) (hl : LeapH y) (hi : i = NY y) (hm : 4 = m) : InRow y m ∧ i + 30 + a + b + 29 + 30 + 30 + 29 + 30 + 29 + 30 + d - 1 = HJ y m d := by
  subst hm hi
  refine ⟨.inl ⟨by decide, by decide⟩, ?_⟩
  have r := (sm1 y).2.2.2.1
  have e := (sm7 (sz1_ml h1) (sz2_ml h2)).2.2.2.2.2.2.2
  rw [ml_12.1 hl] at e
  rw [(hj_early (m := 4) (n := 3) rfl (by decide)).1 hl, e, r]; omega
theorem eL5 {y m d i a b : Int} (h1 : Sz1 (YD y) a) (h2 : Sz2 (YD y) b) (hl : LeapH y) (hi : i = NY y) (hm : 5 = m) : InRow y m ∧ i + 30 + a + b + 29 + 30 + 30 + 29 + 30 + 29 + 30 + 29 + d - 1 = HJ y m d := by
  subst hm hi
  refine ⟨.inl ⟨by decide, by decide⟩, ?_⟩
  have r := (sm1 y).2.2.2.2.1
  have e := (sm7 (sz1_ml h1) (sz2_ml h2)).2.2.2.2.2.2.2
  rw [ml_12.1 hl] at e
  rw [(hj_early (m := 5) (n := 4) rfl (by decide)).1 hl, e, r]; omega
theorem eL6 {y m d i a b : Int} (h1 : Sz1 (YD y) a) (h2 : Sz2 (YD y) b) (hl : LeapH y) (hi : i = NY y) (hm : 6 = m) : InRow y m ∧ i + 30 + a + b + 29 + 30 + 30 + 29 + 30 + 29 + 30 + 29 + 30 + d - 1 = HJ y m d := by
  subst hm hi
  refine ⟨.inl ⟨by decide, by decide⟩, ?_⟩
  have r := (sm1 y).2.2.2.2.2
  have e := (sm7 (sz1_ml h1) (sz2_ml h2)).2.2.2.2.2.2.2
  rw [ml_12.1 hl] at e
  rw [(hj_early (m := 6) (n := 5) rfl (by decide)).1 hl, e, r]; omega
theorem eP7 {y m d i a b : Int} (h1 : Sz1 (YD y) a) (h2 : Sz2 (YD y) b) (hl : ¬ LeapH y) (hi : i = NY y) (hm : 7 = m) : InRow y m ∧ i + d - 1 = HJ y m d := by
  subst hm hi
  refine ⟨.inl ⟨by decide, by decide⟩, ?_⟩
  have e := (sm7 (sz1_ml h1) (sz2_ml h2)).1
  rw [hj_late (m := 7) (n := 0) rfl, e]
  omega
theorem eP8 {y m d i a b : Int} (h1 : Sz1 (YD y) a) (h2 : Sz2 (YD y) b) (hl : ¬ LeapH y) (hi : i = NY y) (hm : 8 = m) : InRow y m ∧ i + 30 + d - 1 = HJ y m d := by
  subst hm hi
  refine ⟨.inl ⟨by decide, by decide⟩, ?_⟩
  have e := (sm7 (sz1_ml h1) (sz2_ml h2)).2.1
  rw [hj_late (m := 8) (n := 1) rfl, e]
theorem eP9 {y m d i a b : Int} (h1 : Sz1 (YD y) a) (h2 : Sz2 (YD y) b) (hl : ¬ LeapH y) (hi : i = NY y) (hm : 9 = m) : InRow y m ∧ i + 30 + a + d - 1 = HJ y m d := by
  subst hm hi
  refine ⟨.inl ⟨by decide, by decide⟩, ?_⟩
  have e := (sm7 (sz1_ml h1) (sz2_ml h2)).2.2.1
  rw [hj_late (m := 9) (n := 2) rfl, e]
  omega
theorem eP10 {y m d i a b : Int} (h1 : Sz1 (YD y) a) (h2 : Sz2 (YD y) b) (hl : ¬ LeapH y) (hi : i = NY y) (hm : 10 = m) : InRow y m ∧ i + 30 + a + b + d - 1 = HJ y m d := by
  subst hm hi
  refine ⟨.inl ⟨by decide, by decide⟩, ?_⟩
  have e := (sm7 (sz1_ml h1) (sz2_ml h2)).2.2.2.1
  rw [hj_late (m := 10) (n := 3) rfl, e]
  omega
theorem eP11 {y m d i a b : Int} (h1 : Sz1 (YD y) a) (h2 : Sz2 (YD y) b) (hl : ¬ LeapH y) (hi : i = NY y) (hm : 11 = m) : InRow y m ∧ i + 30 + a + b + 29 + d - 1 = HJ y m d := by
  subst hm hi
  refine ⟨.inl ⟨by decide, by decide⟩, ?_⟩
  have e := (sm7 (sz1_ml h1) (sz2_ml h2)).2.2.2.2.1
  rw [hj_late (m := 11) (n := 4) rfl, e]
  omega
theorem eP12 {y m d i a b : Int} (h1 : Sz1 (YD y) a) (h2 : Sz2 (YD y) b) (hl : ¬ LeapH y) (hi : i = NY y) (hm : 12 = m) : InRow y m ∧ i + 30 + a + b + 29 + 30 + d - 1 = HJ y m d := by
  subst hm hi
  refine ⟨.inl ⟨by decide, by decide⟩, ?_⟩
  have e := (sm7 (sz1_ml h1) (sz2_ml h2)).2.2.2.2.2.1
  rw [hj_late (m := 12) (n := 5) rfl, e]
  omega
theorem eP1 {y m d i a b : Int} (h1 : Sz1 (YD y) a) (h2 : Sz2 (YD y) b) (hl : ¬ LeapH y) (hi : i = NY y) (hm : 1 = m) : InRow y m ∧ i + 30 + a + b + 29 + 30 + 29 + d - 1 = HJ y m d := by
  subst hm hi
  refine ⟨.inl ⟨by decide, by decide⟩, ?_⟩
  have r := (sm1 y).1
  have e := (sm7 (sz1_ml h1) (sz2_ml h2)).2.2.2.2.2.2.1
  rw [ml_12.2 hl] at e
  rw [(hj_early (m := 1) (n := 0) rfl (by decide)).2 hl, e, r]; omega
theorem eP2 {y m d i a b : Int} (h1 : Sz1 (YD y) a) (h2 : Sz2 (YD y) b) (hl : ¬ LeapH y) (hi : i = NY y) (hm : 2 = m) : InRow y m ∧ i + 30 + a + b + 29 + 30 + 29 + 30 + d - 1 = HJ y m d := by
  subst hm hi
  refine ⟨.inl ⟨by decide, by decide⟩, ?_⟩
  have r := (sm1 y).2.1
  have e := (sm7 (sz1_ml h1) (sz2_ml h2)).2.2.2.2.2.2.1
  rw [ml_12.2 hl] at e
  rw [(hj_early (m := 2) (n := 1) rfl (by decide)).2 hl, e, r]; omega
theorem eP3 {y m d i a b : Int} (h1 : Sz1 (YD y) a) (h2 : Sz2 (YD y) b) (hl : ¬ LeapH y) (hi : i = NY y) (hm : 3 = m) : InRow y m ∧ i + 30 + a + b + 29 + 30 + 29 + 30 + 29 + d - 1 = HJ y m d := by
  subst hm hi
  refine ⟨.inl ⟨by decide, by decide⟩, ?_⟩
  have r := (sm1 y).2.2.1
  have e := (sm7 (sz1_ml h1) (sz2_ml h2)).2.2.2.2.2.2.1
  rw [ml_12.2 hl] at e
  rw [(hj_early (m := 3) (n := 2) rfl (by decide)).2 hl, e, r]; omega
theorem eP4 {y m d i a b : Int} (h1 : Sz1 (YD y) a) (h2 : Sz2 (YD y) b) (hl : ¬ LeapH y) (hi : i = NY y) (hm : 4 = m) : InRow y m ∧ i + 30 + a + b + 29 + 30 + 29 + 30 + 29 + 30 + d - 1 = HJ y m d := by
  subst hm hi
  refine ⟨.inl ⟨by decide, by decide⟩, ?_⟩
  have r := (sm1 y).2.2.2.1
  have e := (sm7 (sz1_ml h1) (sz2_ml h2)).2.2.2.2.2.2.1
  rw [ml_12.2 hl] at e
  rw [(hj_early (m := 4) (n := 3) rfl (by decide)).2 hl, e, r]; omega
theorem eP5 {y m d i a b : Int} (h1 : Sz1 (YD y) a) (h2 : Sz2 (YD y) b) (hl : ¬ LeapH y) (hi : i = NY y) (hm : 5 = m) : InRow y m ∧ i + 30 + a + b + 29 + 30 + 29 + 30 + 29 + 30 + 29 + d - 1 = HJ y m d := by
  subst hm hi
  refine ⟨.inl ⟨by decide, by decide⟩, ?_⟩
  have r := (sm1 y).2.2.2.2.1
  have e := (sm7 (sz1_ml h1) (sz2_ml h2)).2.2.2.2.2.2.1
  rw [ml_12.2 hl] at e
  rw [(hj_early (m := 5) (n := 4) rfl (by decide)).2 hl, e, r]; omega
theorem eP6 {y m d i a b : Int} (h1 : Sz1 (YD y) a) (h2 : Sz2 (YD y) b) (hl : ¬ LeapH y) (hi : i = NY y) (hm : 6 = m) : InRow y m ∧ i + 30 + a + b + 29 + 30 + 29 + 30 + 29 + 30 + 29 + 30 + d - 1 = HJ y m d := by
  subst hm hi
  refine ⟨.inl ⟨by decide, by decide⟩, ?_⟩
  have r := (sm1 y).2.2.2.2.2
  have e := (sm7 (sz1_ml h1) (sz2_ml h2)).2.2.2.2.2.2.1
  rw [ml_12.2 hl] at e
  rw [(hj_early (m := 6) (n := 5) rfl (by decide)).2 hl, e, r]; omega
end Mine
namespace Mine
/-- the law's day of a Hebrew date in a Gregorian year -/
def WitL (g m d v : Int) : Prop := (InRow (g + 3760) m ∧ InY (HJ (g + 3760) m d) g ∧ v = HJ (g + 3760) m d) ∨ (¬ (InRow (g + 3760) m ∧ InY (HJ (g + 3760) m d) g) ∧ InRow (g + 3761) m ∧ InY (HJ (g + 3761) m d) g ∧ v = HJ (g + 3761) m d)
def NoL (g m d : Int) : Prop := ¬ (InRow (g + 3760) m ∧ InY (HJ (g + 3760) m d) g) ∧ ¬ (InRow (g + 3761) m ∧ InY (HJ (g + 3761) m d) g)
theorem witL1 {g m d j Y a b : Int} (h : InRow (g + 3760) m ∧ j = HJ (g + 3760) m d) (hd : IsDate j Y a b) (hY : Y = g) : WitL g m d j := by
  subst hY
  obtain ⟨h1, h2⟩ := h
  subst h2
  exact .inl ⟨h1, inY_of hd, rfl⟩
theorem noL1 {g m d j Y a b : Int} (h : InRow (g + 3760) m ∧ j = HJ (g + 3760) m d) (hd : IsDate j Y a b) (hY : Y ≠ g) : ¬ (InRow (g + 3760) m ∧ InY (HJ (g + 3760) m d) g) := by
  obtain ⟨h1, h2⟩ := h
  subst h2
  exact fun x => not_inY hd hY x.2
theorem noL0 {g m d : Int} (h : ¬ InRow (g + 3760) m) : ¬ (InRow (g + 3760) m ∧ InY (HJ (g + 3760) m d) g) := fun x => h x.1
theorem witL2 {g m d j Y a b : Int} (h0 : ¬ (InRow (g + 3760) m ∧ InY (HJ (g + 3760) m d) g)) (h : InRow (g + 3761) m ∧ j = HJ (g + 3761) m d) (hd : IsDate j Y a b) (hY : Y = g) : WitL g m d j := by
  subst hY
  obtain ⟨h1, h2⟩ := h
  subst h2
  exact .inr ⟨h0, h1, inY_of hd, rfl⟩
theorem noL2 {g m d j Y a b : Int} (h : InRow (g + 3761) m ∧ j = HJ (g + 3761) m d) (hd : IsDate j Y a b) (hY : Y ≠ g) : ¬ (InRow (g + 3761) m ∧ InY (HJ (g + 3761) m d) g) := by
  obtain ⟨h1, h2⟩ := h
  subst h2
  exact fun x => not_inY hd hY x.2
theorem noL3 {g m d : Int} (h : ¬ InRow (g + 3761) m) : ¬ (InRow (g + 3761) m ∧ InY (HJ (g + 3761) m d) g) := fun x => h x.1
theorem veadar {g : Int} (h1 : 1 ≤ g) (h2 : g ≤ 6000) (hl : LeapH (g + 3760)) : InY (HJ (g + 3760) 13 14) g := by
  have e : HJ (g + 3760) 13 14 = NY (g + 3760) + SM (g + 3760) 7 6 + 14 - 1 := hj_late (n := 6) rfl
  have s := (sm7 (y := g + 3760) rfl rfl).2.2.2.2.2.2.1
  rw [ml_12.1 hl] at s
  have r8 := ml_range (g + 3760) 8
  have r9 := ml_range (g + 3760) 9
  have d1 := d1_range (g + 3760)
  have d2 := d2_range (g + 3760)
  rw [e, s]
  unfold InY NY J0
  unfold Mo at d1
  generalize ML (g + 3760) 8 = a at *
  generalize ML (g + 3760) 9 = b at *
  generalize D1 (g + 3760) = x at *
  generalize D2 (g + 3760) = z at *
  clear e s hl
  constructor <;> omega
def HasV (g m d : Int) : Prop := ∃ v, WitL g m d v
noncomputable def PV (g m d : Int) : Int := @dite _ (HasV g m d) (Classical.propDecidable _) (fun h => Classical.choose h) (fun _ => 0)
theorem witL_unique {g m d v v' : Int} (h : WitL g m d v) (h' : WitL g m d v') : v = v' := by
  rcases h with ⟨a, b, c⟩ | ⟨a, b, c, e⟩ <;> rcases h' with ⟨a', b', c'⟩ | ⟨a', b', c', e'⟩
  · rw [c, c']
  · exact absurd ⟨a, b⟩ a'
  · exact absurd ⟨a', b'⟩ a
  · rw [e, e']
theorem pv_of {g m d v : Int} (h : WitL g m d v) : HasV g m d ∧ v = PV g m d := by
  have hx : HasV g m d := ⟨v, h⟩
  refine ⟨hx, ?_⟩
  have e : PV g m d = Classical.choose hx := by unfold PV; rw [dif_pos hx]
  rw [e]
  exact witL_unique h (Classical.choose_spec hx)
theorem nov_of {g m d : Int} (h : NoL g m d) : ¬ HasV g m d := by
  rintro ⟨v, ⟨a, b, _⟩ | ⟨_, a, b, _⟩⟩
  · exact h.1 ⟨a, b⟩
  · exact h.2 ⟨a, b⟩
/-- the dates that are asked for -/
def Asked (g m d : Int) : Prop := (1 ≤ m ∧ m ≤ 12) ∨ (m = 13 ∧ d = 14 ∧ LeapH (g + 3760) ∧ 1 ≤ g ∧ g ≤ 6000)
theorem wit_asked {g m d v : Int} (h : Asked g m d) (w : Wit g m d v) : WitL g m d v := by
  have e : g + 3760 + 1 = g + 3761 := by omega
  unfold Wit at w
  rw [e] at w
  rcases h with h | ⟨rfl, rfl, hl, g1, g2⟩
  · rcases w with ⟨a, b⟩ | ⟨a, b, c⟩
    · exact .inl ⟨.inl h, a, b⟩
    · exact .inr ⟨fun x => a x.2, .inl h, b, c⟩
  · rcases w with ⟨a, b⟩ | ⟨a, b, c⟩
    · exact .inl ⟨.inr ⟨rfl, hl⟩, a, b⟩
    · exact absurd (veadar g1 g2 hl) a
theorem noW_asked {g m d : Int} (h : Asked g m d) (w : NoW g m d) : NoL g m d := by
  have e : g + 3760 + 1 = g + 3761 := by omega
  unfold NoW at w
  rw [e] at w
  exact ⟨fun x => w.1 x.2, fun x => w.2 x.2⟩
end Mine
namespace Mine
def keepAt : List Nat → List Stmt → List Stmt
  | [], _ => []
  | i :: r, l => match l[i]? with
    | some x => x :: keepAt r l
    | none => keepAt r l
noncomputable def tops : List Nat := [1, 2, 3, 5, 6, 7, 8, 9, 10, 11, 12, 13, 14, 16, 17, 19, 20, 21, 22, 23, 24, 25, 26, 27, 28, 29, 30, 31, 32, 33, 34, 35, 36, 37, 38, 39, 40, 41, 42, 43, 45, 58, 59, 60, 61, 62, 63, 64, 65, 66, 67, 68, 69, 70, 71, 72]
noncomputable def vw : Program := { PySem.Challenge.pw_ja0023_02 with main := { PySem.Challenge.pw_ja0023_02.main with body := keepAt tops PySem.Challenge.pw_ja0023_02.main.body } }
set_option maxRecDepth 100000 in
set_option maxHeartbeats 8000000 in
theorem said : PySem.W.OpenLaw.wellSaid PySem.Challenge.rw_ja0023_02 = true := by
  unfold OpenLaw.wellSaid OpenRow.wellSaid OpenRow.partSaid looksOpen
  repeat' (with_reducible refine PySem.W.look_both ?_ ?_)
  all_goals decide +kernel
local macro_rules | `(tactic| o_law) => `(tactic| refine PySem.W.holds_law Mine.said fun said => ?_)
local macro_rules | `(tactic| o_head $H:term) => `(tactic| (
  refine PySem.W.holds_open (q := Mine.vw) (loose := [Str.ofString "to_jd_gregorian", Str.ofString "to_jd_hebrew", Str.ofString "hanukkah", Str.ofString "purim", Str.ofString "rosh_hashanah", Str.ofString "yom_kippur", Str.ofString "passover", Str.ofString "shavuot", Str.ofString "sukkot", Str.ofString "shemini_azeret", Str.ofString "lag_baomer", Str.ofString "tu_beshvat", Str.ofString "tisha_bav"]) (Xt := fun s => xlAt Mine.vw [] s && recOk (RowW.records (OpenRow.toRowW (OpenLaw.row PySem.Challenge.rw_ja0023_02))) s) (XP := XL Mine.vw []) (Yf := Hook.obs $H) (Ya := Hook.val $H) (YP := Hook.says $H) (N := 3306) ?hl (Hook.of $H) (Hook.keeps $H) (fun s e => xl_of s (Bool.and_eq_true_iff.mp e).1) XL.keeps (by rfl) (by rfl) (by rfl) (fun s e => recFacts_of (Bool.and_eq_true_iff.mp e).2) (by rfl) (by first | assumption | decide +kernel) (by decide +kernel) ⟨rfl, rfl, rfl, rfl, rfl, by decide +kernel⟩ ?hw ?hc
  (case hl => intro w; kernel_rfl)))
set_option maxRecDepth 100000 in
set_option maxHeartbeats 8000000 in
open_top hd for PySem.Challenge.rw_ja0023_02
end Mine
namespace Mine
/-- the top's facts, for this program -/
abbrev TopM (mean : ExcName → Option Value) (mg mb : Str → Option Value) (h : Heap) : Prop :=
  Top Mine.vw (looseW Mine.vw
      [Str.ofString "to_jd_gregorian", Str.ofString "to_jd_hebrew", Str.ofString "hanukkah", Str.ofString "purim", Str.ofString "rosh_hashanah", Str.ofString "yom_kippur", Str.ofString "passover", Str.ofString "shavuot", Str.ofString "sukkot", Str.ofString "shemini_azeret", Str.ofString "lag_baomer", Str.ofString "tu_beshvat", Str.ofString "tisha_bav"]) mean mg mb h
/-- what a call asks of the caller's frame, and how it comes back (Ret: the value, the ledger's new objects) -/
def CallsTo (D : Nat) (f : Addr) (vs : List Value) (Ret : (List (Addr × Obj)) → Value → Prop) : Prop :=
  ∀ (w : World) (mean : ExcName → Option Value) (mg mb : Str → Option Value) (dp un : Nat) (gd : Option (List Code)) (cn : Str) (cs : Scope) (a : Addr) (ccd : Value) (cl : List (Str × Addr)) (outer : List Env) (A₀ : Around) (base h₀ : Heap) (L : Addr) (m : Str → Option Value) (news : List (Addr × Obj)) (s : Shared) (Q E : Value → Shared → Prop),
    Below A₀ base outer h₀ → Fr h₀ L s.heap m → (Mine.hd.heap_1 w.params).In h₀ → News h₀ L s.heap news → TopM mean mg mb h₀ → cs.kind = .function →
    dp + D < recursionLimit → un + 8 * D < cLine →
    (∀ (nw : List (Addr × Obj)) (v : Value) (h' : Heap) (tk' : Nat), Ret nw v → Fr h₀ L h' m → News h₀ L h' (nw ++ news) → Q v { s with heap := h', toks := tk' }) →
    wpAny (model PySem.Challenge.rw_ja0023_02.row.prog w) (ktrTop dp un gd cn cs L a ccd cl outer) (call (.ref f) vs) Q E s
/-- what a call asks of the caller's frame -/
structure Here (D : Nat) (w : World) (mean : ExcName → Option Value) (mg mb : Str → Option Value) (dp un : Nat) (cs : Scope) (outer : List Env) (A₀ : Around) (base h₀ : Heap) (L : Addr) (m : Str → Option Value) (news : List (Addr × Obj)) (s : Shared) : Prop where
  B : Below A₀ base outer h₀
  F : Fr h₀ L s.heap m
  X : (Mine.hd.heap_1 w.params).In h₀
  N : News h₀ L s.heap news
  T : TopM mean mg mb h₀
  hk : cs.kind = .function
  hd : dp + D < recursionLimit
  hu : un + 8 * D < cLine
theorem calls_use {D : Nat} {f : Addr} {vs : List Value} {Ret : (List (Addr × Obj)) → Value → Prop} (C : CallsTo D f vs Ret)
    {w : World} {mean : ExcName → Option Value} {mg mb : Str → Option Value} {dp un : Nat} {gd : Option (List Code)} {cn : Str} {cs : Scope} {a : Addr} {ccd : Value} {cl : List (Str × Addr)} {outer : List Env} {A₀ : Around} {base h₀ : Heap} {L : Addr} {m : Str → Option Value} {news : List (Addr × Obj)} {s : Shared} {Q E : Value → Shared → Prop}
    (H : Here D w mean mg mb dp un cs outer A₀ base h₀ L m news s)
    (ret : ∀ (nw : List (Addr × Obj)) (v : Value), Ret nw v → ∀ (h' : Heap) (tk' : Nat), Fr h₀ L h' m → News h₀ L h' (nw ++ news) → Q v { s with heap := h', toks := tk' }) :
    wpAny (model PySem.Challenge.rw_ja0023_02.row.prog w) (ktrTop dp un gd cn cs L a ccd cl outer) (call (.ref f) vs) Q E s :=
  C _ _ _ _ _ _ _ _ _ _ _ _ _ _ _ _ _ _ _ _ _ _ H.B H.F H.X H.N H.T H.hk H.hd H.hu (fun nw v h' tk' r => ret nw v r h' tk')
theorem gFill : PySem.Challenge.rw_ja0023_02 = PySem.Challenge.rw_ja0023_02 → (Mine.hd.heap_1 = Mine.hd.heap_1) := by
  k_fill
  exact fun _ => rfl
theorem g_isleap (P : Params) : nsIn (Mine.hd.heap_1 P) mainGlobals (Str.ofString "isleap") = some (some (.ref 21)) := by k_is
theorem g_midnight (P : Params) : nsIn (Mine.hd.heap_1 P) mainGlobals (Str.ofString "midnight") = some (some (.ref 28)) := by k_is
theorem g_jwday (P : Params) : nsIn (Mine.hd.heap_1 P) mainGlobals (Str.ofString "jwday") = some (some (.ref 35)) := by k_is
theorem g_legal_date (P : Params) : nsIn (Mine.hd.heap_1 P) mainGlobals (Str.ofString "legal_date") = some (some (.ref 43)) := by k_is
theorem g_to_jd_gregorian (P : Params) : nsIn (Mine.hd.heap_1 P) mainGlobals (Str.ofString "to_jd_gregorian") = some (some (.ref 50)) := by k_is
theorem g_from_jd (P : Params) : nsIn (Mine.hd.heap_1 P) mainGlobals (Str.ofString "from_jd") = some (some (.ref 57)) := by k_is
theorem g_leap (P : Params) : nsIn (Mine.hd.heap_1 P) mainGlobals (Str.ofString "leap") = some (some (.ref 64)) := by k_is
theorem g_year_months (P : Params) : nsIn (Mine.hd.heap_1 P) mainGlobals (Str.ofString "year_months") = some (some (.ref 71)) := by k_is
theorem g_delay_1 (P : Params) : nsIn (Mine.hd.heap_1 P) mainGlobals (Str.ofString "delay_1") = some (some (.ref 78)) := by k_is
theorem g_delay_2 (P : Params) : nsIn (Mine.hd.heap_1 P) mainGlobals (Str.ofString "delay_2") = some (some (.ref 85)) := by k_is
theorem g_year_days (P : Params) : nsIn (Mine.hd.heap_1 P) mainGlobals (Str.ofString "year_days") = some (some (.ref 92)) := by k_is
theorem g_month_length (P : Params) : nsIn (Mine.hd.heap_1 P) mainGlobals (Str.ofString "month_length") = some (some (.ref 99)) := by k_is
theorem g_month_days (P : Params) : nsIn (Mine.hd.heap_1 P) mainGlobals (Str.ofString "month_days") = some (some (.ref 106)) := by k_is
theorem g_to_jd_hebrew (P : Params) : nsIn (Mine.hd.heap_1 P) mainGlobals (Str.ofString "to_jd_hebrew") = some (some (.ref 113)) := by k_is
theorem g_to_jd_gregorianyear (P : Params) : nsIn (Mine.hd.heap_1 P) mainGlobals (Str.ofString "to_jd_gregorianyear") = some (some (.ref 120)) := by k_is
theorem g_hanukkah (P : Params) : nsIn (Mine.hd.heap_1 P) mainGlobals (Str.ofString "hanukkah") = some (some (.ref 128)) := by k_is
theorem g_purim (P : Params) : nsIn (Mine.hd.heap_1 P) mainGlobals (Str.ofString "purim") = some (some (.ref 136)) := by k_is
theorem g_rosh_hashanah (P : Params) : nsIn (Mine.hd.heap_1 P) mainGlobals (Str.ofString "rosh_hashanah") = some (some (.ref 144)) := by k_is
theorem g_yom_kippur (P : Params) : nsIn (Mine.hd.heap_1 P) mainGlobals (Str.ofString "yom_kippur") = some (some (.ref 152)) := by k_is
theorem g_passover (P : Params) : nsIn (Mine.hd.heap_1 P) mainGlobals (Str.ofString "passover") = some (some (.ref 160)) := by k_is
theorem g_shavuot (P : Params) : nsIn (Mine.hd.heap_1 P) mainGlobals (Str.ofString "shavuot") = some (some (.ref 168)) := by k_is
theorem g_sukkot (P : Params) : nsIn (Mine.hd.heap_1 P) mainGlobals (Str.ofString "sukkot") = some (some (.ref 176)) := by k_is
theorem g_shemini_azeret (P : Params) : nsIn (Mine.hd.heap_1 P) mainGlobals (Str.ofString "shemini_azeret") = some (some (.ref 184)) := by k_is
theorem g_lag_baomer (P : Params) : nsIn (Mine.hd.heap_1 P) mainGlobals (Str.ofString "lag_baomer") = some (some (.ref 192)) := by k_is
theorem g_tu_beshvat (P : Params) : nsIn (Mine.hd.heap_1 P) mainGlobals (Str.ofString "tu_beshvat") = some (some (.ref 200)) := by k_is
theorem g_tisha_bav (P : Params) : nsIn (Mine.hd.heap_1 P) mainGlobals (Str.ofString "tisha_bav") = some (some (.ref 208)) := by k_is
theorem g_law_cell (P : Params) : nsIn (Mine.hd.heap_1 P) mainGlobals (Str.ofString "_law_cell") = some (some (.ref 215)) := by k_is
theorem g_law_gregorian (P : Params) : nsIn (Mine.hd.heap_1 P) mainGlobals (Str.ofString "_law_gregorian") = some (some (.ref 222)) := by k_is
theorem g_law_long (P : Params) : nsIn (Mine.hd.heap_1 P) mainGlobals (Str.ofString "_law_long") = some (some (.ref 229)) := by k_is
theorem g_law_sizes (P : Params) : nsIn (Mine.hd.heap_1 P) mainGlobals (Str.ofString "_law_sizes") = some (some (.ref 236)) := by k_is
theorem g_law_thirteen (P : Params) : nsIn (Mine.hd.heap_1 P) mainGlobals (Str.ofString "_law_thirteen") = some (some (.ref 243)) := by k_is
theorem g_law_new_year (P : Params) : nsIn (Mine.hd.heap_1 P) mainGlobals (Str.ofString "_law_new_year") = some (some (.ref 248)) := by k_is
theorem g_law_row (P : Params) : nsIn (Mine.hd.heap_1 P) mainGlobals (Str.ofString "_law_row") = some (some (.ref 255)) := by k_is
theorem g_law_number (P : Params) : nsIn (Mine.hd.heap_1 P) mainGlobals (Str.ofString "_law_number") = some (some (.ref 262)) := by k_is
theorem g_law_within (P : Params) : nsIn (Mine.hd.heap_1 P) mainGlobals (Str.ofString "_law_within") = some (some (.ref 269)) := by k_is
theorem g_law_due (P : Params) : nsIn (Mine.hd.heap_1 P) mainGlobals (Str.ofString "_law_due") = some (some (.ref 276)) := by k_is
theorem g_law_plain (P : Params) : nsIn (Mine.hd.heap_1 P) mainGlobals (Str.ofString "_law_plain") = some (some (.ref 283)) := by k_is
theorem g_law_ahead (P : Params) : nsIn (Mine.hd.heap_1 P) mainGlobals (Str.ofString "_law_ahead") = some (some (.ref 290)) := by k_is
theorem g_law_told (P : Params) : nsIn (Mine.hd.heap_1 P) mainGlobals (Str.ofString "_law_told") = some (some (.ref 297)) := by k_is
theorem g_law_any (P : Params) : nsIn (Mine.hd.heap_1 P) mainGlobals (Str.ofString "_law_any") = some (some (.ref 304)) := by k_is
theorem g_HAVE_30_DAYS (P : Params) : nsIn (Mine.hd.heap_1 P) mainGlobals (Str.ofString "HAVE_30_DAYS") = some (some (.ref 36)) := by k_is
theorem g_EPOCH_gregorian (P : Params) : nsIn (Mine.hd.heap_1 P) mainGlobals (Str.ofString "EPOCH_gregorian") = some (some (.int 1721426 212)) := by k_is
theorem g_INTERCALATION_CYCLE_YEARS (P : Params) : nsIn (Mine.hd.heap_1 P) mainGlobals (Str.ofString "INTERCALATION_CYCLE_YEARS") = some (some (.int 400 214)) := by k_is
theorem g_INTERCALATION_CYCLE_DAYS (P : Params) : nsIn (Mine.hd.heap_1 P) mainGlobals (Str.ofString "INTERCALATION_CYCLE_DAYS") = some (some (.int 146097 216)) := by k_is
theorem g_LEAP_SUPPRESSION_YEARS (P : Params) : nsIn (Mine.hd.heap_1 P) mainGlobals (Str.ofString "LEAP_SUPPRESSION_YEARS") = some (some (.int 100 218)) := by k_is
theorem g_LEAP_SUPPRESSION_DAYS (P : Params) : nsIn (Mine.hd.heap_1 P) mainGlobals (Str.ofString "LEAP_SUPPRESSION_DAYS") = some (some (.int 36524 220)) := by k_is
theorem g_LEAP_CYCLE_YEARS (P : Params) : nsIn (Mine.hd.heap_1 P) mainGlobals (Str.ofString "LEAP_CYCLE_YEARS") = some (some (.int 4 222)) := by k_is
theorem g_LEAP_CYCLE_DAYS (P : Params) : nsIn (Mine.hd.heap_1 P) mainGlobals (Str.ofString "LEAP_CYCLE_DAYS") = some (some (.int 1461 224)) := by k_is
theorem g_YEAR_DAYS (P : Params) : nsIn (Mine.hd.heap_1 P) mainGlobals (Str.ofString "YEAR_DAYS") = some (some (.int 365 226)) := by k_is
theorem g_EPOCH_hebrew (P : Params) : nsIn (Mine.hd.heap_1 P) mainGlobals (Str.ofString "EPOCH_hebrew") = some (some (.int 347996 278)) := by k_is
theorem g_HEBREW_YEAR_OFFSET (P : Params) : nsIn (Mine.hd.heap_1 P) mainGlobals (Str.ofString "HEBREW_YEAR_OFFSET") = some (some (.int 3760 280)) := by k_is
theorem g_NISAN (P : Params) : nsIn (Mine.hd.heap_1 P) mainGlobals (Str.ofString "NISAN") = some (some (.int 1 282)) := by k_is
theorem g_IYYAR (P : Params) : nsIn (Mine.hd.heap_1 P) mainGlobals (Str.ofString "IYYAR") = some (some (.int 2 284)) := by k_is
theorem g_SIVAN (P : Params) : nsIn (Mine.hd.heap_1 P) mainGlobals (Str.ofString "SIVAN") = some (some (.int 3 286)) := by k_is
theorem g_TAMMUZ (P : Params) : nsIn (Mine.hd.heap_1 P) mainGlobals (Str.ofString "TAMMUZ") = some (some (.int 4 288)) := by k_is
theorem g_AV (P : Params) : nsIn (Mine.hd.heap_1 P) mainGlobals (Str.ofString "AV") = some (some (.int 5 290)) := by k_is
theorem g_ELUL (P : Params) : nsIn (Mine.hd.heap_1 P) mainGlobals (Str.ofString "ELUL") = some (some (.int 6 292)) := by k_is
theorem g_TISHRI (P : Params) : nsIn (Mine.hd.heap_1 P) mainGlobals (Str.ofString "TISHRI") = some (some (.int 7 294)) := by k_is
theorem g_HESHVAN (P : Params) : nsIn (Mine.hd.heap_1 P) mainGlobals (Str.ofString "HESHVAN") = some (some (.int 8 296)) := by k_is
theorem g_KISLEV (P : Params) : nsIn (Mine.hd.heap_1 P) mainGlobals (Str.ofString "KISLEV") = some (some (.int 9 298)) := by k_is
theorem g_TEVETH (P : Params) : nsIn (Mine.hd.heap_1 P) mainGlobals (Str.ofString "TEVETH") = some (some (.int 10 300)) := by k_is
theorem g_SHEVAT (P : Params) : nsIn (Mine.hd.heap_1 P) mainGlobals (Str.ofString "SHEVAT") = some (some (.int 11 302)) := by k_is
theorem g_ADAR (P : Params) : nsIn (Mine.hd.heap_1 P) mainGlobals (Str.ofString "ADAR") = some (some (.int 12 304)) := by k_is
theorem g_VEADAR (P : Params) : nsIn (Mine.hd.heap_1 P) mainGlobals (Str.ofString "VEADAR") = some (some (.int 13 306)) := by k_is
theorem g_SAT (P : Params) : nsIn (Mine.hd.heap_1 P) mainGlobals (Str.ofString "SAT") = some (some (.int 5 392)) := by k_is
theorem b_int (P : Params) : nsIn (Mine.hd.heap_1 P) mainGlobals (Str.ofString "int") = some none := by k_is
theorem v_int : bootBuiltins (Str.ofString "int") = some (.type "int") ∧ Str.ofString "int" ≠ "__name__" := ⟨by boot_fast, by decide⟩
theorem b_abs (P : Params) : nsIn (Mine.hd.heap_1 P) mainGlobals (Str.ofString "abs") = some none := by k_is
theorem v_abs : bootBuiltins (Str.ofString "abs") = some (.builtin "abs") ∧ Str.ofString "abs" ≠ "__name__" := ⟨by boot_fast, by decide⟩
theorem b_range (P : Params) : nsIn (Mine.hd.heap_1 P) mainGlobals (Str.ofString "range") = some none := by k_is
theorem v_range : bootBuiltins (Str.ofString "range") = some (.type "range") ∧ Str.ofString "range" ≠ "__name__" := ⟨by boot_fast, by decide⟩
theorem b_divmod (P : Params) : nsIn (Mine.hd.heap_1 P) mainGlobals (Str.ofString "divmod") = some none := by k_is
theorem v_divmod : bootBuiltins (Str.ofString "divmod") = some (.builtin "divmod") ∧ Str.ofString "divmod" ≠ "__name__" := ⟨by boot_fast, by decide⟩
theorem b_len (P : Params) : nsIn (Mine.hd.heap_1 P) mainGlobals (Str.ofString "len") = some none := by k_is
theorem v_len : bootBuiltins (Str.ofString "len") = some (.builtin "len") ∧ Str.ofString "len" ≠ "__name__" := ⟨by boot_fast, by decide⟩
theorem b_sum (P : Params) : nsIn (Mine.hd.heap_1 P) mainGlobals (Str.ofString "sum") = some none := by k_is
theorem v_sum : bootBuiltins (Str.ofString "sum") = some (.builtin "sum") ∧ Str.ofString "sum" ≠ "__name__" := ⟨by boot_fast, by decide⟩
theorem b_ValueError (P : Params) : nsIn (Mine.hd.heap_1 P) mainGlobals (Str.ofString "ValueError") = some none := by k_is
theorem v_ValueError : bootBuiltins (Str.ofString "ValueError") = some (.type "ValueError") ∧ Str.ofString "ValueError" ≠ "__name__" := ⟨by boot_fast, by decide⟩
noncomputable abbrev nameL : List (Str × Value) := [(Str.ofString "isleap", .ref 21), (Str.ofString "midnight", .ref 28), (Str.ofString "jwday", .ref 35), (Str.ofString "legal_date", .ref 43), (Str.ofString "to_jd_gregorian", .ref 50), (Str.ofString "from_jd", .ref 57), (Str.ofString "leap", .ref 64), (Str.ofString "year_months", .ref 71), (Str.ofString "delay_1", .ref 78), (Str.ofString "delay_2", .ref 85), (Str.ofString "year_days", .ref 92), (Str.ofString "month_length", .ref 99), (Str.ofString "month_days", .ref 106), (Str.ofString "to_jd_hebrew", .ref 113), (Str.ofString "to_jd_gregorianyear", .ref 120), (Str.ofString "hanukkah", .ref 128), (Str.ofString "purim", .ref 136), (Str.ofString "rosh_hashanah", .ref 144), (Str.ofString "yom_kippur", .ref 152), (Str.ofString "passover", .ref 160), (Str.ofString "shavuot", .ref 168), (Str.ofString "sukkot", .ref 176), (Str.ofString "shemini_azeret", .ref 184), (Str.ofString "lag_baomer", .ref 192), (Str.ofString "tu_beshvat", .ref 200), (Str.ofString "tisha_bav", .ref 208), (Str.ofString "_law_cell", .ref 215), (Str.ofString "_law_gregorian", .ref 222), (Str.ofString "_law_long", .ref 229), (Str.ofString "_law_sizes", .ref 236), (Str.ofString "_law_thirteen", .ref 243), (Str.ofString "_law_new_year", .ref 248), (Str.ofString "_law_row", .ref 255), (Str.ofString "_law_number", .ref 262), (Str.ofString "_law_within", .ref 269), (Str.ofString "_law_due", .ref 276), (Str.ofString "_law_plain", .ref 283), (Str.ofString "_law_ahead", .ref 290), (Str.ofString "_law_told", .ref 297), (Str.ofString "_law_any", .ref 304), (Str.ofString "HAVE_30_DAYS", .ref 36), (Str.ofString "EPOCH_gregorian", .int 1721426 212), (Str.ofString "INTERCALATION_CYCLE_YEARS", .int 400 214), (Str.ofString "INTERCALATION_CYCLE_DAYS", .int 146097 216), (Str.ofString "LEAP_SUPPRESSION_YEARS", .int 100 218), (Str.ofString "LEAP_SUPPRESSION_DAYS", .int 36524 220), (Str.ofString "LEAP_CYCLE_YEARS", .int 4 222), (Str.ofString "LEAP_CYCLE_DAYS", .int 1461 224), (Str.ofString "YEAR_DAYS", .int 365 226), (Str.ofString "EPOCH_hebrew", .int 347996 278), (Str.ofString "HEBREW_YEAR_OFFSET", .int 3760 280), (Str.ofString "NISAN", .int 1 282), (Str.ofString "IYYAR", .int 2 284), (Str.ofString "SIVAN", .int 3 286), (Str.ofString "TAMMUZ", .int 4 288), (Str.ofString "AV", .int 5 290), (Str.ofString "ELUL", .int 6 292), (Str.ofString "TISHRI", .int 7 294), (Str.ofString "HESHVAN", .int 8 296), (Str.ofString "KISLEV", .int 9 298), (Str.ofString "TEVETH", .int 10 300), (Str.ofString "SHEVAT", .int 11 302), (Str.ofString "ADAR", .int 12 304), (Str.ofString "VEADAR", .int 13 306), (Str.ofString "SAT", .int 5 392), (Str.ofString "int", .type "int"), (Str.ofString "abs", .builtin "abs"), (Str.ofString "range", .type "range"), (Str.ofString "divmod", .builtin "divmod"), (Str.ofString "len", .builtin "len"), (Str.ofString "sum", .builtin "sum"), (Str.ofString "ValueError", .type "ValueError")]
theorem allc {α : Type} {p : α → Prop} {a : α} {l : List α} (h : p a) (t : ∀ x ∈ l, p x) : ∀ x ∈ a :: l, p x := fun x hx => by
  rcases List.mem_cons.mp hx with e | e
  · rw [e]; exact h
  · exact t x e
def NameOk (P : Params) (p : Str × Value) : Prop := nsIn (Mine.hd.heap_1 P) mainGlobals p.1 = some (some p.2) ∨ (nsIn (Mine.hd.heap_1 P) mainGlobals p.1 = some none ∧ bootBuiltins p.1 = some p.2 ∧ p.1 ≠ "__name__")
theorem nameL_ok (P : Params) : ∀ p ∈ nameL, NameOk P p := allc (p := NameOk P) (.inl (g_isleap P)) (allc (p := NameOk P) (.inl (g_midnight P)) (allc (p := NameOk P) (.inl (g_jwday P)) (allc (p := NameOk P) (.inl (g_legal_date P)) (allc (p := NameOk P) (.inl (g_to_jd_gregorian P)) (allc (p := NameOk P) (.inl (g_from_jd P)) (allc (p := NameOk P) (.inl (g_leap P)) (allc (p := NameOk P) (.inl (g_year_months P)) (allc (p := NameOk P) (.inl (g_delay_1 P)) (allc (p := NameOk P) (.inl (g_delay_2 P)) (allc (p := NameOk P) (.inl (g_year_days P)) (allc (p := NameOk P) (.inl (g_month_length P)) (allc (p := NameOk P) (.inl (g_month_days P)) (allc (p := NameOk P) (.inl (g_to_jd_hebrew P)) (allc (p := NameOk P) (.inl (g_to_jd_gregorianyear P)) (allc (p := NameOk P) (.inl (g_hanukkah P)) (allc (p := NameOk P) (.inl (g_purim P)) (allc (p := NameOk P) (.inl (g_rosh_hashanah P)) (allc (p := NameOk P) (.inl (g_yom_kippur P)) (allc (p := NameOk P) (.inl (g_passover P)) (allc (p := NameOk P) (.inl (g_shavuot P)) (allc (p := NameOk P) (.inl (g_sukkot P)) (allc (p := NameOk P) (.inl (g_shemini_azeret P)) (allc (p := NameOk P) (.inl (g_lag_baomer P)) (allc (p := NameOk P) (.inl (g_tu_beshvat P)) (allc (p := NameOk P) (.inl (g_tisha_bav P)) (allc (p := NameOk P) (.inl (g_law_cell P)) (allc (p := NameOk P) (.inl (g_law_gregorian P)) (allc (p := NameOk P) (.inl (g_law_long P)) (allc (p := NameOk P) (.inl (g_law_sizes P)) (allc (p := NameOk P) (.inl (g_law_thirteen P)) (allc (p := NameOk P) (.inl (g_law_new_year P)) (allc (p := NameOk P) (.inl (g_law_row P)) (allc (p := NameOk P) (.inl (g_law_number P)) (allc (p := NameOk P) (.inl (g_law_within P)) (allc (p := NameOk P) (.inl (g_law_due P)) (allc (p := NameOk P) (.inl (g_law_plain P)) (allc (p := NameOk P) (.inl (g_law_ahead P)) (allc (p := NameOk P) (.inl (g_law_told P)) (allc (p := NameOk P) (.inl (g_law_any P)) (allc (p := NameOk P) (.inl (g_HAVE_30_DAYS P)) (allc (p := NameOk P) (.inl (g_EPOCH_gregorian P)) (allc (p := NameOk P) (.inl (g_INTERCALATION_CYCLE_YEARS P)) (allc (p := NameOk P) (.inl (g_INTERCALATION_CYCLE_DAYS P)) (allc (p := NameOk P) (.inl (g_LEAP_SUPPRESSION_YEARS P)) (allc (p := NameOk P) (.inl (g_LEAP_SUPPRESSION_DAYS P)) (allc (p := NameOk P) (.inl (g_LEAP_CYCLE_YEARS P)) (allc (p := NameOk P) (.inl (g_LEAP_CYCLE_DAYS P)) (allc (p := NameOk P) (.inl (g_YEAR_DAYS P)) (allc (p := NameOk P) (.inl (g_EPOCH_hebrew P)) (allc (p := NameOk P) (.inl (g_HEBREW_YEAR_OFFSET P)) (allc (p := NameOk P) (.inl (g_NISAN P)) (allc (p := NameOk P) (.inl (g_IYYAR P)) (allc (p := NameOk P) (.inl (g_SIVAN P)) (allc (p := NameOk P) (.inl (g_TAMMUZ P)) (allc (p := NameOk P) (.inl (g_AV P)) (allc (p := NameOk P) (.inl (g_ELUL P)) (allc (p := NameOk P) (.inl (g_TISHRI P)) (allc (p := NameOk P) (.inl (g_HESHVAN P)) (allc (p := NameOk P) (.inl (g_KISLEV P)) (allc (p := NameOk P) (.inl (g_TEVETH P)) (allc (p := NameOk P) (.inl (g_SHEVAT P)) (allc (p := NameOk P) (.inl (g_ADAR P)) (allc (p := NameOk P) (.inl (g_VEADAR P)) (allc (p := NameOk P) (.inl (g_SAT P)) (allc (p := NameOk P) (.inr ⟨b_int P, v_int⟩) (allc (p := NameOk P) (.inr ⟨b_abs P, v_abs⟩) (allc (p := NameOk P) (.inr ⟨b_range P, v_range⟩) (allc (p := NameOk P) (.inr ⟨b_divmod P, v_divmod⟩) (allc (p := NameOk P) (.inr ⟨b_len P, v_len⟩) (allc (p := NameOk P) (.inr ⟨b_sum P, v_sum⟩) (allc (p := NameOk P) (.inr ⟨b_ValueError P, v_ValueError⟩) (fun _ h => nomatch h))))))))))))))))))))))))))))))))))))))))))))))))))))))))))))))))))))))))
theorem nameT {prog : Program} {w : World} {A : Around} {E : Value → Shared → Prop} {s : Shared} {P : Params} {L : Addr} {h₀ : Heap} {m mg mb : Str → Option Value} {p : Program} {loose : List Str} {mean : ExcName → Option Value} {cn : Str} {cs : Scope} {a' : Addr} {ccd : Value} {ns gs : List Str} {x : Str} {v : Value} {pos : Pos} {Q : Value → Shared → Prop}
    (F : Fr h₀ L s.heap m) (X : (Mine.hd.heap_1 P).In h₀) (T : Top p loose mean mg mb h₀) (O : LocOk cs ns gs) (hx : x ∈ gs) (e : (x, v) ∈ nameL) (h : Q v s) : wpAny (model prog w) A (eval (.Name x pos) (envOf cn cs L a' ccd)) Q E s := by
  rcases nameL_ok P _ e with h1 | ⟨h1, h2⟩
  · exact nameMG F X T O hx h1 h
  · exact nameMB F X T O hx h1 h2 h
abbrev tup3 (D : Addr) (c : Nat) (y m d : Int) (t1 t2 t3 : Tok) : Addr × Obj := (D, ({ cls := .type "tuple", data := .seq #[.int y t1, .int m t2, .int d t3] c } : Obj))
/-- an int within P comes back -/
def RI (P : Int → Prop) (nw : List (Addr × Obj)) (v : Value) : Prop := nw = [] ∧ ∃ i t, v = .int i t ∧ P i
/-- a bool comes back: true upon P -/
def RB (P : Prop) (nw : List (Addr × Obj)) (v : Value) : Prop := nw = [] ∧ ((P ∧ v = .bool true) ∨ (¬ P ∧ v = .bool false))
/-- a new tuple of three ints within P -/
def RT (P : Int → Int → Int → Prop) (nw : List (Addr × Obj)) (v : Value) : Prop := ∃ D c y m d t1 t2 t3, nw = [tup3 D c y m d t1 t2 t3] ∧ v = .ref D ∧ P y m d
/-- a new list of ints comes back -/
def RL (P : List Int → Prop) (nw : List (Addr × Obj)) (v : Value) : Prop := ∃ D c items zs, nw = [(D, ({ cls := .type "list", data := .seq items.toArray c } : Obj))] ∧ v = .ref D ∧ IntsAre items zs ∧ P zs
theorem RL.of {P : List Int → Prop} {D : Addr} {c : Nat} {items : List Value} {zs : List Int} (hi : IntsAre items zs) (h : P zs) : RL P [(D, ({ cls := .type "list", data := .seq items.toArray c } : Obj))] (.ref D) := ⟨D, c, items, zs, rfl, rfl, hi, h⟩
/-- a bool within P comes back -/
def RV (P : Bool → Prop) (nw : List (Addr × Obj)) (v : Value) : Prop := nw = [] ∧ ∃ b, v = .bool b ∧ P b
theorem RV.of {P : Bool → Prop} {b : Bool} (h : P b) : RV P [] (.bool b) := ⟨rfl, b, rfl, h⟩
theorem RI.of {P : Int → Prop} {i : Int} {t : Tok} (h : P i) : RI P [] (.int i t) := ⟨rfl, i, t, rfl, h⟩
theorem RB.of {P : Prop} {b : Bool} (h : b = true ↔ P) : RB P [] (.bool b) := ⟨rfl, by cases b <;> simp_all⟩
theorem RB.ofT {P : Prop} (h : P) : RB P [] (.bool true) := ⟨rfl, .inl ⟨h, rfl⟩⟩
theorem RT.of {P : Int → Int → Int → Prop} {D : Addr} {c : Nat} {y m d : Int} {t1 t2 t3 : Tok} (h : P y m d) : RT P [tup3 D c y m d t1 t2 t3] (.ref D) := ⟨D, c, y, m, d, t1, t2, t3, rfl, rfl, h⟩
theorem news_sub {h₀ h : Heap} {L : Addr} {l l' : List (Addr × Obj)} (N : News h₀ L h l) (hs : ∀ p ∈ l', p ∈ l) : News h₀ L h l' := fun p hp => N p (hs p hp)
theorem calls_RB {D : Nat} {f : Addr} {vs : List Value} {P : Prop} (C : CallsTo D f vs (RB P))
    {w : World} {mean : ExcName → Option Value} {mg mb : Str → Option Value} {dp un : Nat} {gd : Option (List Code)} {cn : Str} {cs : Scope} {a : Addr} {ccd : Value} {cl : List (Str × Addr)} {outer : List Env} {A₀ : Around} {base h₀ : Heap} {L : Addr} {m : Str → Option Value} {news : List (Addr × Obj)} {s : Shared} {Q E : Value → Shared → Prop}
    (H : Here D w mean mg mb dp un cs outer A₀ base h₀ L m news s)
    (ht : P → ∀ (h' : Heap) (tk' : Nat), Fr h₀ L h' m → News h₀ L h' news → Q (.bool true) { s with heap := h', toks := tk' })
    (hf : ¬ P → ∀ (h' : Heap) (tk' : Nat), Fr h₀ L h' m → News h₀ L h' news → Q (.bool false) { s with heap := h', toks := tk' }) :
    wpAny (model PySem.Challenge.rw_ja0023_02.row.prog w) (ktrTop dp un gd cn cs L a ccd cl outer) (call (.ref f) vs) Q E s := by
  refine calls_use C H ?_
  rintro _ _ ⟨rfl, (⟨h, rfl⟩ | ⟨h, rfl⟩)⟩ h' tk' F' N'
  · exact ht h h' tk' F' N'
  · exact hf h h' tk' F' N'
theorem calls_RI {D : Nat} {f : Addr} {vs : List Value} {P : Int → Prop} (C : CallsTo D f vs (RI P))
    {w : World} {mean : ExcName → Option Value} {mg mb : Str → Option Value} {dp un : Nat} {gd : Option (List Code)} {cn : Str} {cs : Scope} {a : Addr} {ccd : Value} {cl : List (Str × Addr)} {outer : List Env} {A₀ : Around} {base h₀ : Heap} {L : Addr} {m : Str → Option Value} {news : List (Addr × Obj)} {s : Shared} {Q E : Value → Shared → Prop}
    (H : Here D w mean mg mb dp un cs outer A₀ base h₀ L m news s)
    (ret : ∀ (i : Int), P i → ∀ (t : Tok) (h' : Heap) (tk' : Nat), Fr h₀ L h' m → News h₀ L h' news → Q (.int i t) { s with heap := h', toks := tk' }) :
    wpAny (model PySem.Challenge.rw_ja0023_02.row.prog w) (ktrTop dp un gd cn cs L a ccd cl outer) (call (.ref f) vs) Q E s := by
  refine calls_use C H ?_
  rintro _ _ ⟨rfl, i, t, rfl, h⟩ h' tk' F' N'
  exact ret i h t h' tk' F' N'
theorem calls_RT {D : Nat} {f : Addr} {vs : List Value} {P : Int → Int → Int → Prop} (C : CallsTo D f vs (RT P))
    {w : World} {mean : ExcName → Option Value} {mg mb : Str → Option Value} {dp un : Nat} {gd : Option (List Code)} {cn : Str} {cs : Scope} {a : Addr} {ccd : Value} {cl : List (Str × Addr)} {outer : List Env} {A₀ : Around} {base h₀ : Heap} {L : Addr} {m : Str → Option Value} {news : List (Addr × Obj)} {s : Shared} {Q E : Value → Shared → Prop}
    (H : Here D w mean mg mb dp un cs outer A₀ base h₀ L m news s)
    (ret : ∀ (y mo d : Int), P y mo d → ∀ (D : Addr) (c : Nat) (t1 t2 t3 : Tok) (h' : Heap) (tk' : Nat), Fr h₀ L h' m → News h₀ L h' ((D, ({ cls := .type "tuple", data := .seq #[.int y t1, .int mo t2, .int d t3] c } : Obj)) :: news) → Q (.ref D) { s with heap := h', toks := tk' }) :
    wpAny (model PySem.Challenge.rw_ja0023_02.row.prog w) (ktrTop dp un gd cn cs L a ccd cl outer) (call (.ref f) vs) Q E s := by
  refine calls_use C H ?_
  rintro _ _ ⟨D', c, y, mo, d, t1, t2, t3, rfl, rfl, h⟩ h' tk' F' N'
  exact ret y mo d h D' c t1 t2 t3 h' tk' F' N'
theorem calls_RL {D : Nat} {f : Addr} {vs : List Value} {P : List Int → Prop} (C : CallsTo D f vs (RL P))
    {w : World} {mean : ExcName → Option Value} {mg mb : Str → Option Value} {dp un : Nat} {gd : Option (List Code)} {cn : Str} {cs : Scope} {a : Addr} {ccd : Value} {cl : List (Str × Addr)} {outer : List Env} {A₀ : Around} {base h₀ : Heap} {L : Addr} {m : Str → Option Value} {news : List (Addr × Obj)} {s : Shared} {Q E : Value → Shared → Prop}
    (H : Here D w mean mg mb dp un cs outer A₀ base h₀ L m news s)
    (ret : ∀ (zs : List Int), P zs → ∀ (items : List Value), IntsAre items zs → ∀ (D : Addr) (c : Nat) (h' : Heap) (tk' : Nat), Fr h₀ L h' m → News h₀ L h' ((D, ({ cls := .type "list", data := .seq items.toArray c } : Obj)) :: news) → Q (.ref D) { s with heap := h', toks := tk' }) :
    wpAny (model PySem.Challenge.rw_ja0023_02.row.prog w) (ktrTop dp un gd cn cs L a ccd cl outer) (call (.ref f) vs) Q E s := by
  refine calls_use C H ?_
  rintro _ _ ⟨D', c, items, zs, rfl, rfl, hi, h⟩ h' tk' F' N'
  exact ret zs h items hi D' c h' tk' F' N'
theorem calls_RV {D : Nat} {f : Addr} {vs : List Value} {P : Bool → Prop} (C : CallsTo D f vs (RV P))
    {w : World} {mean : ExcName → Option Value} {mg mb : Str → Option Value} {dp un : Nat} {gd : Option (List Code)} {cn : Str} {cs : Scope} {a : Addr} {ccd : Value} {cl : List (Str × Addr)} {outer : List Env} {A₀ : Around} {base h₀ : Heap} {L : Addr} {m : Str → Option Value} {news : List (Addr × Obj)} {s : Shared} {Q E : Value → Shared → Prop}
    (H : Here D w mean mg mb dp un cs outer A₀ base h₀ L m news s)
    (ret : ∀ (b : Bool), P b → ∀ (h' : Heap) (tk' : Nat), Fr h₀ L h' m → News h₀ L h' news → Q (.bool b) { s with heap := h', toks := tk' }) :
    wpAny (model PySem.Challenge.rw_ja0023_02.row.prog w) (ktrTop dp un gd cn cs L a ccd cl outer) (call (.ref f) vs) Q E s := by
  refine calls_use C H ?_
  rintro _ _ ⟨rfl, b, rfl, h⟩ h' tk' F' N'
  exact ret b h h' tk' F' N'
def CallsKw (D : Nat) (f : Addr) (vs : List Value) (kw : List (Str × Value)) (Ret : (List (Addr × Obj)) → Value → Prop) : Prop :=
  ∀ (w : World) (mean : ExcName → Option Value) (mg mb : Str → Option Value) (dp un : Nat) (gd : Option (List Code)) (cn : Str) (cs : Scope) (a : Addr) (ccd : Value) (cl : List (Str × Addr)) (outer : List Env) (A₀ : Around) (base h₀ : Heap) (L : Addr) (m : Str → Option Value) (news : List (Addr × Obj)) (s : Shared) (Q E : Value → Shared → Prop),
    Below A₀ base outer h₀ → Fr h₀ L s.heap m → (Mine.hd.heap_1 w.params).In h₀ → News h₀ L s.heap news → TopM mean mg mb h₀ → cs.kind = .function →
    dp + D < recursionLimit → un + 8 * D < cLine →
    (∀ (nw : List (Addr × Obj)) (v : Value) (h' : Heap) (tk' : Nat), Ret nw v → Fr h₀ L h' m → News h₀ L h' (nw ++ news) → Q v { s with heap := h', toks := tk' }) →
    wpAny (model PySem.Challenge.rw_ja0023_02.row.prog w) (ktrTop dp un gd cn cs L a ccd cl outer) (call (.ref f) vs kw) Q E s
theorem calls_RTkw {D : Nat} {f : Addr} {vs : List Value} {kw : List (Str × Value)} {P : Int → Int → Int → Prop} (C : CallsKw D f vs kw (RT P))
    {w : World} {mean : ExcName → Option Value} {mg mb : Str → Option Value} {dp un : Nat} {gd : Option (List Code)} {cn : Str} {cs : Scope} {a : Addr} {ccd : Value} {cl : List (Str × Addr)} {outer : List Env} {A₀ : Around} {base h₀ : Heap} {L : Addr} {m : Str → Option Value} {news : List (Addr × Obj)} {s : Shared} {Q E : Value → Shared → Prop}
    (H : Here D w mean mg mb dp un cs outer A₀ base h₀ L m news s)
    (ret : ∀ (y mo d : Int), P y mo d → ∀ (D : Addr) (c : Nat) (t1 t2 t3 : Tok) (h' : Heap) (tk' : Nat), Fr h₀ L h' m → News h₀ L h' ((D, ({ cls := .type "tuple", data := .seq #[.int y t1, .int mo t2, .int d t3] c } : Obj)) :: news) → Q (.ref D) { s with heap := h', toks := tk' }) :
    wpAny (model PySem.Challenge.rw_ja0023_02.row.prog w) (ktrTop dp un gd cn cs L a ccd cl outer) (call (.ref f) vs kw) Q E s := by
  refine C _ _ _ _ _ _ _ _ _ _ _ _ _ _ _ _ _ _ _ _ _ _ H.B H.F H.X H.N H.T H.hk H.hd H.hu ?_
  rintro _ _ h' tk' ⟨D', c, y, mo, d, t1, t2, t3, rfl, rfl, h⟩ F' N'
  exact ret y mo d h D' c t1 t2 t3 h' tk' F' N'
theorem ret_sub {h₀ : Heap} {L : Addr} {m : Str → Option Value} {news : List (Addr × Obj)} {s : Shared} {Q : Value → Shared → Prop} {Ret : (List (Addr × Obj)) → Value → Prop}
    (ret : ∀ (nw : List (Addr × Obj)) (v : Value) (h' : Heap) (tk' : Nat), Ret nw v → Fr h₀ L h' m → News h₀ L h' (nw ++ news) → Q v { s with heap := h', toks := tk' })
    (nw : List (Addr × Obj)) {v : Value} {h' : Heap} {tk' : Nat} {all : List (Addr × Obj)} (r : Ret nw v) (F : Fr h₀ L h' m) (N : News h₀ L h' all) (hs : ∀ p ∈ nw ++ news, p ∈ all) : Q v { s with heap := h', toks := tk' } := ret nw v h' tk' r F (news_sub N hs)
theorem ret_RT {h₀ : Heap} {L : Addr} {m : Str → Option Value} {news all : List (Addr × Obj)} {s : Shared} {Q : Value → Shared → Prop} {P : Int → Int → Int → Prop}
    (ret : ∀ (nw : List (Addr × Obj)) (v : Value) (h' : Heap) (tk' : Nat), RT P nw v → Fr h₀ L h' m → News h₀ L h' (nw ++ news) → Q v { s with heap := h', toks := tk' })
    {D : Addr} {c : Nat} {y mo d : Int} {t1 t2 t3 : Tok} {h' : Heap} {tk' : Nat} (F : Fr h₀ L h' m) (N : News h₀ L h' ((D, ({ cls := .type "tuple", data := .seq #[.int y t1, .int mo t2, .int d t3] c } : Obj)) :: all)) (hs : ∀ p ∈ news, p ∈ all) (r : P y mo d) : Q (.ref D) { s with heap := h', toks := tk' } :=
  ret_sub ret [_] (RT.of r) F N (fun p hp => by
    rcases List.mem_cons.mp hp with h | h
    · rw [h]; exact List.mem_cons_self
    · exact List.mem_cons_of_mem _ (hs p h))
section
variable {prog : Program} {w : World} {A : Around} {E : Value → Shared → Prop} {s : Shared} {a b : Int} {t u : Tok} {Q : Value → Shared → Prop}
theorem my_fdiv (hb : 0 < b) (hs : b < 1073741824) (h : ∀ v : Int, v = a / b → ∀ (t' : Tok) (tk : Nat), Q (.int v t') { s with toks := tk }) : wpAny (model prog w) A (binaryOp .FloorDiv (.int a t) (.int b u)) Q E s :=
  floordiv_int (by omega) (h _ (Int.fdiv_eq_ediv_of_nonneg _ (by omega)) _ _) (Or.inl (PyProof.noPylong_small (by omega)))
theorem my_fmod (hb : 0 < b) (h : ∀ v : Int, v = a % b → ∀ (t' : Tok) (tk : Nat), Q (.int v t') { s with toks := tk }) : wpAny (model prog w) A (binaryOp .Mod (.int a t) (.int b u)) Q E s :=
  mod_int' (by omega) (h _ (Int.fmod_eq_emod_of_nonneg _ (by omega)) _ _)
theorem my_divmod {h₀ : Heap} {L : Addr} {m : Str → Option Value} {news : List (Addr × Obj)} (F : Fr h₀ L s.heap m) (N : News h₀ L s.heap news) (hb : 0 < b) (hs : b < 1073741824)
    (h : ∀ q r : Int, q = a / b → r = a % b → ∀ (D : Addr) (t1 t2 : Tok) (h' : Heap) (tk : Nat), Fr h₀ L h' m → News h₀ L h' ((D, ({ cls := .type "tuple", data := .seq #[.int q t1, .int r t2] } : Obj)) :: news) → Q (.ref D) { s with heap := h', toks := tk }) :
    wpAny (model prog w) A (call (.builtin "divmod") [.int a t, .int b u]) Q E s :=
  divmod_N F N (by omega) (fun h' F' N' => h _ _ (Int.fdiv_eq_ediv_of_nonneg _ (by omega)) (Int.fmod_eq_emod_of_nonneg _ (by omega)) _ _ _ h' _ F' N') (Or.inl (PyProof.noPylong_small (by omega)))
theorem my_abs (h : ∀ v : Int, (0 ≤ a → v = a) → (a < 0 → v = -a) → ∀ (t' : Tok) (tk : Nat), Q (.int v t') { s with toks := tk }) : wpAny (model prog w) A (call (.builtin "abs") [.int a t]) Q E s :=
  call_abs_int fun u tk => h _ (fun h0 => if_neg (by omega)) (fun h0 => if_pos h0) u tk
theorem my_in {x : Int} {tp : Addr} {items : List Value} {ns : List Int} {Q : Value → Shared → Prop} (ht : IsTup s.heap tp items.toArray) (hi : IntsAre items ns) (h1 : x ∈ ns → Q (.bool true) s) (h2 : x ∉ ns → Q (.bool false) s) : wpAny (model prog w) A (compareOp .In (.int x t) (.ref tp)) Q E s := by
  refine in_tuple_ints (ns := ns) ht (by simpa using hi) ?_
  by_cases h : x ∈ ns
  · have : ns.any (· == x) = true := by simp [h]
    rw [this]; exact h1 h
  · have : ns.any (· == x) = false := by
      rw [List.any_eq_false]; intro y hy; simp; rintro rfl; exact h hy
    rw [this]; exact h2 h
end
/-- a call that raises a built-in exception -/
def RaisesTo (D : Nat) (f : Addr) (vs : List Value) (X : String) : Prop :=
  ∀ (w : World) (mean : ExcName → Option Value) (mg mb : Str → Option Value) (dp un : Nat) (gd : Option (List Code)) (cn : Str) (cs : Scope) (a : Addr) (ccd : Value) (cl : List (Str × Addr)) (outer : List Env) (A₀ : Around) (base h₀ : Heap) (L : Addr) (m : Str → Option Value) (news : List (Addr × Obj)) (s : Shared) (Q E : Value → Shared → Prop),
    Below A₀ base outer h₀ → Fr h₀ L s.heap m → (Mine.hd.heap_1 w.params).In h₀ → News h₀ L s.heap news → TopM mean mg mb h₀ → cs.kind = .function →
    dp + D < recursionLimit → un + 8 * D < cLine →
    (∀ (g : Heap) (e t : Addr) (xs : List Value) (h' : Heap) (tk' : Nat), Fr h₀ L g m → RaisedS base g (envX cn cs L a ccd cl :: outer) e (.type X) t xs news h' → g.UpToSlots h' → E (.ref e) { s with heap := h', toks := tk' }) →
    wpAny (model PySem.Challenge.rw_ja0023_02.row.prog w) (ktrTop dp un gd cn cs L a ccd cl outer) (call (.ref f) vs) Q E s
theorem raises_use {D : Nat} {f : Addr} {vs : List Value} {X : String} (C : RaisesTo D f vs X)
    {w : World} {mean : ExcName → Option Value} {mg mb : Str → Option Value} {dp un : Nat} {gd : Option (List Code)} {cn : Str} {cs : Scope} {a : Addr} {ccd : Value} {cl : List (Str × Addr)} {outer : List Env} {A₀ : Around} {base h₀ : Heap} {L : Addr} {m : Str → Option Value} {news : List (Addr × Obj)} {s : Shared} {Q E : Value → Shared → Prop}
    (H : Here D w mean mg mb dp un cs outer A₀ base h₀ L m news s)
    (exc : ∀ (g : Heap) (e t : Addr) (xs : List Value) (h' : Heap) (tk' : Nat), Fr h₀ L g m → RaisedS base g (envX cn cs L a ccd cl :: outer) e (.type X) t xs news h' → g.UpToSlots h' → E (.ref e) { s with heap := h', toks := tk' }) :
    wpAny (model PySem.Challenge.rw_ja0023_02.row.prog w) (ktrTop dp un gd cn cs L a ccd cl outer) (call (.ref f) vs) Q E s :=
  C _ _ _ _ _ _ _ _ _ _ _ _ _ _ _ _ _ _ _ _ _ _ H.B H.F H.X H.N H.T H.hk H.hd H.hu exc
/-- a call of the law's own frame, whose def may catch -/
def TopCalls (D : Nat) (f : Addr) (vs : List Value) (Ret : (List (Addr × Obj)) → Value → Prop) : Prop :=
  ∀ (w : World) (mean : ExcName → Option Value) (mg mb : Str → Option Value) (dp un : Nat) (gd : Option (List Code)) (cn : Str) (cs : Scope) (a : Addr) (ccd : Value) (A₀ : Around) (h₀ : Heap) (L : Addr) (m : Str → Option Value) (news : List (Addr × Obj)) (s : Shared) (Q E : Value → Shared → Prop),
    Below A₀ h₀ [] h₀ → Fr h₀ L s.heap m → (Mine.hd.heap_1 w.params).In h₀ → News h₀ L s.heap news → TopM mean mg mb h₀ → cs.kind = .function →
    dp + D < recursionLimit → un + 8 * D < cLine →
    (∀ (nw : List (Addr × Obj)) (v : Value) (h' : Heap) (tk' : Nat), Ret nw v → Fr h₀ L h' m → News h₀ L h' (nw ++ news) → Q v { s with heap := h', toks := tk' }) →
    wpAny (model PySem.Challenge.rw_ja0023_02.row.prog w) (ktrTop dp un gd cn cs L a ccd [] []) (call (.ref f) vs) Q E s
theorem calls_mono {D : Nat} {f : Addr} {vs : List Value} {R R' : (List (Addr × Obj)) → Value → Prop} (C : CallsTo D f vs R) (h : ∀ nw v, R nw v → R' nw v) : CallsTo D f vs R' := by
  unfold CallsTo
  intro w mean mg mb dp un gd cn cs a' ccd cl outer A₀ base h₀ L fm news s Q E B F X N T hk hd hu hret
  exact C _ _ _ _ _ _ _ _ _ _ _ _ _ _ _ _ _ _ _ _ _ _ B F X N T hk hd hu (fun nw v h' tk' r => hret nw v h' tk' (h nw v r))
/-- a call that comes back within Ret, or raises ValueError upon Exc -/
def CallsX (D : Nat) (f : Addr) (vs : List Value) (Ret : (List (Addr × Obj)) → Value → Prop) (Exc : Prop) : Prop :=
  ∀ (w : World) (mean : ExcName → Option Value) (mg mb : Str → Option Value) (dp un : Nat) (gd : Option (List Code)) (cn : Str) (cs : Scope) (a : Addr) (ccd : Value) (cl : List (Str × Addr)) (outer : List Env) (A₀ : Around) (base h₀ : Heap) (L : Addr) (m : Str → Option Value) (news : List (Addr × Obj)) (s : Shared) (Q E : Value → Shared → Prop),
    Below A₀ base outer h₀ → Fr h₀ L s.heap m → (Mine.hd.heap_1 w.params).In h₀ → News h₀ L s.heap news → TopM mean mg mb h₀ → cs.kind = .function →
    dp + D < recursionLimit → un + 8 * D < cLine →
    (∀ (nw : List (Addr × Obj)) (v : Value) (h' : Heap) (tk' : Nat), Ret nw v → Fr h₀ L h' m → News h₀ L h' (nw ++ news) → Q v { s with heap := h', toks := tk' }) →
    (Exc → ∀ (g : Heap) (e t : Addr) (xs : List Value) (h' : Heap) (tk' : Nat), Fr h₀ L g m → RaisedS base g (envX cn cs L a ccd cl :: outer) e (.type "ValueError") t xs news h' → g.UpToSlots h' → E (.ref e) { s with heap := h', toks := tk' }) →
    wpAny (model PySem.Challenge.rw_ja0023_02.row.prog w) (ktrTop dp un gd cn cs L a ccd cl outer) (call (.ref f) vs) Q E s
theorem callsX_mono {D : Nat} {f : Addr} {vs : List Value} {R R' : (List (Addr × Obj)) → Value → Prop} {X X' : Prop} (C : CallsX D f vs R X) (h : ∀ nw v, R nw v → R' nw v) (hx : X → X') : CallsX D f vs R' X' := by
  unfold CallsX
  intro w mean mg mb dp un gd cn cs a' ccd cl outer A₀ base h₀ L fm news s Q E B F X N T hk hd hu hret hexc
  exact C _ _ _ _ _ _ _ _ _ _ _ _ _ _ _ _ _ _ _ _ _ _ B F X N T hk hd hu (fun nw v h' tk' r => hret nw v h' tk' (h nw v r)) (fun x => hexc (hx x))
theorem callsX_RI {D : Nat} {f : Addr} {vs : List Value} {P : Int → Prop} {X : Prop} (C : CallsX D f vs (RI P) X)
    {w : World} {mean : ExcName → Option Value} {mg mb : Str → Option Value} {dp un : Nat} {gd : Option (List Code)} {cn : Str} {cs : Scope} {a : Addr} {ccd : Value} {cl : List (Str × Addr)} {outer : List Env} {A₀ : Around} {base h₀ : Heap} {L : Addr} {m : Str → Option Value} {news : List (Addr × Obj)} {s : Shared} {Q E : Value → Shared → Prop}
    (H : Here D w mean mg mb dp un cs outer A₀ base h₀ L m news s)
    (ret : ∀ (i : Int), P i → ∀ (t : Tok) (h' : Heap) (tk' : Nat), Fr h₀ L h' m → News h₀ L h' news → Q (.int i t) { s with heap := h', toks := tk' })
    (exc : X → ∀ (g : Heap) (e t : Addr) (xs : List Value) (h' : Heap) (tk' : Nat), Fr h₀ L g m → RaisedS base g (envX cn cs L a ccd cl :: outer) e (.type "ValueError") t xs news h' → g.UpToSlots h' → E (.ref e) { s with heap := h', toks := tk' }) :
    wpAny (model PySem.Challenge.rw_ja0023_02.row.prog w) (ktrTop dp un gd cn cs L a ccd cl outer) (call (.ref f) vs) Q E s := by
  refine C _ _ _ _ _ _ _ _ _ _ _ _ _ _ _ _ _ _ _ _ _ _ H.B H.F H.X H.N H.T H.hk H.hd H.hu ?_ exc
  rintro _ _ h' tk' ⟨rfl, i, t, rfl, h⟩ F' N'
  exact ret i h t h' tk' F' N'
theorem callsX_RT {D : Nat} {f : Addr} {vs : List Value} {P : Int → Int → Int → Prop} {X : Prop} (C : CallsX D f vs (RT P) X)
    {w : World} {mean : ExcName → Option Value} {mg mb : Str → Option Value} {dp un : Nat} {gd : Option (List Code)} {cn : Str} {cs : Scope} {a : Addr} {ccd : Value} {cl : List (Str × Addr)} {outer : List Env} {A₀ : Around} {base h₀ : Heap} {L : Addr} {m : Str → Option Value} {news : List (Addr × Obj)} {s : Shared} {Q E : Value → Shared → Prop}
    (H : Here D w mean mg mb dp un cs outer A₀ base h₀ L m news s)
    (ret : ∀ (y mo d : Int), P y mo d → ∀ (D : Addr) (c : Nat) (t1 t2 t3 : Tok) (h' : Heap) (tk' : Nat), Fr h₀ L h' m → News h₀ L h' ((D, ({ cls := .type "tuple", data := .seq #[.int y t1, .int mo t2, .int d t3] c } : Obj)) :: news) → Q (.ref D) { s with heap := h', toks := tk' })
    (exc : X → ∀ (g : Heap) (e t : Addr) (xs : List Value) (h' : Heap) (tk' : Nat), Fr h₀ L g m → RaisedS base g (envX cn cs L a ccd cl :: outer) e (.type "ValueError") t xs news h' → g.UpToSlots h' → E (.ref e) { s with heap := h', toks := tk' }) :
    wpAny (model PySem.Challenge.rw_ja0023_02.row.prog w) (ktrTop dp un gd cn cs L a ccd cl outer) (call (.ref f) vs) Q E s := by
  refine C _ _ _ _ _ _ _ _ _ _ _ _ _ _ _ _ _ _ _ _ _ _ H.B H.F H.X H.N H.T H.hk H.hd H.hu ?_ exc
  rintro _ _ h' tk' ⟨D', c, y, mo, d, t1, t2, t3, rfl, rfl, h⟩ F' N'
  exact ret y mo d h D' c t1 t2 t3 h' tk' F' N'
/-- an int comes back, or None -/
def RO (P : Int → Prop) (X : Prop) (nw : List (Addr × Obj)) (v : Value) : Prop := nw = [] ∧ ((∃ i t, v = .int i t ∧ P i) ∨ (X ∧ v = .none))
theorem RO.some {P : Int → Prop} {X : Prop} {i : Int} {t : Tok} (h : P i) : RO P X [] (.int i t) := ⟨rfl, .inl ⟨i, t, rfl, h⟩⟩
theorem RO.none {P : Int → Prop} {X : Prop} (h : X) : RO P X [] .none := ⟨rfl, .inr ⟨h, rfl⟩⟩
theorem calls_RO {D : Nat} {f : Addr} {vs : List Value} {P : Int → Prop} {X : Prop} (C : CallsTo D f vs (RO P X))
    {w : World} {mean : ExcName → Option Value} {mg mb : Str → Option Value} {dp un : Nat} {gd : Option (List Code)} {cn : Str} {cs : Scope} {a : Addr} {ccd : Value} {cl : List (Str × Addr)} {outer : List Env} {A₀ : Around} {base h₀ : Heap} {L : Addr} {m : Str → Option Value} {news : List (Addr × Obj)} {s : Shared} {Q E : Value → Shared → Prop}
    (H : Here D w mean mg mb dp un cs outer A₀ base h₀ L m news s)
    (ret : ∀ (i : Int), P i → ∀ (t : Tok) (h' : Heap) (tk' : Nat), Fr h₀ L h' m → News h₀ L h' news → Q (.int i t) { s with heap := h', toks := tk' })
    (non : X → ∀ (h' : Heap) (tk' : Nat), Fr h₀ L h' m → News h₀ L h' news → Q .none { s with heap := h', toks := tk' }) :
    wpAny (model PySem.Challenge.rw_ja0023_02.row.prog w) (ktrTop dp un gd cn cs L a ccd cl outer) (call (.ref f) vs) Q E s := by
  refine calls_use C H ?_
  rintro _ _ ⟨rfl, (⟨i, t, rfl, h⟩ | ⟨h, rfl⟩)⟩ h' tk' F' N'
  · exact ret i h t h' tk' F' N'
  · exact non h h' tk' F' N'
/-- a known value comes back -/
def RW (v₀ : Value) (nw : List (Addr × Obj)) (v : Value) : Prop := nw = [] ∧ v = v₀
theorem calls_RW {D : Nat} {f : Addr} {vs : List Value} {v₀ : Value} (C : CallsTo D f vs (RW v₀))
    {w : World} {mean : ExcName → Option Value} {mg mb : Str → Option Value} {dp un : Nat} {gd : Option (List Code)} {cn : Str} {cs : Scope} {a : Addr} {ccd : Value} {cl : List (Str × Addr)} {outer : List Env} {A₀ : Around} {base h₀ : Heap} {L : Addr} {m : Str → Option Value} {news : List (Addr × Obj)} {s : Shared} {Q E : Value → Shared → Prop}
    (H : Here D w mean mg mb dp un cs outer A₀ base h₀ L m news s)
    (ret : ∀ (h' : Heap) (tk' : Nat), Fr h₀ L h' m → News h₀ L h' news → Q v₀ { s with heap := h', toks := tk' }) :
    wpAny (model PySem.Challenge.rw_ja0023_02.row.prog w) (ktrTop dp un gd cn cs L a ccd cl outer) (call (.ref f) vs) Q E s := by
  refine calls_use C H ?_
  rintro _ _ ⟨rfl, rfl⟩ h' tk' F' N'
  exact ret h' tk' F' N'
theorem calls_KO {D : Nat} {f : Addr} {vs : List Value} {P : Prop} {x : Int} {X : Prop} (C : CallsTo D f vs (RO (fun v => P ∧ v = x) X))
    {w : World} {mean : ExcName → Option Value} {mg mb : Str → Option Value} {dp un : Nat} {gd : Option (List Code)} {cn : Str} {cs : Scope} {a : Addr} {ccd : Value} {cl : List (Str × Addr)} {outer : List Env} {A₀ : Around} {base h₀ : Heap} {L : Addr} {m : Str → Option Value} {news : List (Addr × Obj)} {s : Shared} {Q E : Value → Shared → Prop}
    (H : Here D w mean mg mb dp un cs outer A₀ base h₀ L m news s)
    (ret : P → ∀ (t : Tok) (h' : Heap) (tk' : Nat), Fr h₀ L h' m → News h₀ L h' news → Q (.int x t) { s with heap := h', toks := tk' })
    (non : X → ∀ (h' : Heap) (tk' : Nat), Fr h₀ L h' m → News h₀ L h' news → Q .none { s with heap := h', toks := tk' }) :
    wpAny (model PySem.Challenge.rw_ja0023_02.row.prog w) (ktrTop dp un gd cn cs L a ccd cl outer) (call (.ref f) vs) Q E s := by
  refine calls_use C H ?_
  rintro _ _ ⟨rfl, (⟨i, t, rfl, h, rfl⟩ | ⟨h, rfl⟩)⟩ h' tk' F' N'
  · exact ret h t h' tk' F' N'
  · exact non h h' tk' F' N'
-- the ways to an int meet, the heap grown by what is dropped
@[irreducible] def MeetEnd (h₀ : Heap) (L : Addr) (m : Str → Option Value) (news : List (Addr × Obj)) (P : Int → Prop) (s : Shared) (v : Value) (s' : Shared) : Prop :=
  ∃ (n : Int) (t : Tok) (h' : Heap) (tk : Nat), P n ∧ v = .int n t ∧ s' = { s with heap := h', toks := tk } ∧ Fr h₀ L h' m ∧ News h₀ L h' news
theorem meet_end {h₀ : Heap} {L : Addr} {m : Str → Option Value} {news all : List (Addr × Obj)} {P : Int → Prop} {s : Shared} {n : Int} {t : Tok} {h' : Heap} {tk : Nat} (F : Fr h₀ L h' m) (N : News h₀ L h' all) (hs : ∀ p ∈ news, p ∈ all) (h : P n) : MeetEnd h₀ L m news P s (.int n t) { s with heap := h', toks := tk } := by
  unfold MeetEnd
  exact ⟨n, t, h', tk, h, rfl, rfl, F, fun p hp => N p (hs p hp)⟩
theorem meet_any {M : Model} {A : Around} {c : Sem Value} {s : Shared} {Q E : Value → Shared → Prop} {h₀ : Heap} {L : Addr} {m : Str → Option Value} {news : List (Addr × Obj)} (P : Int → Prop)
    (F : Fr h₀ L s.heap m) (N : News h₀ L s.heap news)
    (h : wpAny M A c (MeetEnd h₀ L m news P s) E s)
    (k : ∀ (n : Int) (t : Tok) (h' : Heap) (tk : Nat), P n → Fr h₀ L h' m → News h₀ L h' news → Q (.int n t) { s with heap := h', toks := tk }) : wpAny M A c Q E s := by
  refine wpAny_mono h ?_ (fun _ _ e => e)
  intro v s' hv
  unfold MeetEnd at hv
  obtain ⟨n, t, h', tk, hp, rfl, rfl, F', N'⟩ := hv
  exact k n t h' tk hp F' N'
end Mine
namespace Mine
-- what a call asks; what follows a step
local macro_rules | `(tactic| regstrif_fact) => `(tactic| exact ⟨by k_asm, by k_asm, by k_asm, by k_asm, by k_asm, by first | exact rfl | assumption, by ktr_room, by ktr_units⟩)
local macro_rules | `(tactic| regstrif_slice) => `(tactic| ((try k_sweep); (try k_fold)))
local macro_rules | `(tactic| regstrif_gather) => `(tactic| (intro p hp; repeat (first | exact hp | refine List.mem_cons_of_mem _ ?_)))
local macro_rules | `(tactic| kct_strs) => `(tactic| first | decide | omega)
local macro_rules | `(tactic| kbo_bools) => `(tactic| with_reducible assumption)
local macro_rules | `(tactic| kba_ints) => `(tactic| with_reducible ktn_open)
local macro_rules | `(tactic| walk_at "binaryOp FloorDiv int int") => `(tactic| (k_here; (with_reducible refine my_fdiv (by kct_strs) (by kct_strs) ?_); intros; (try k_fold)))
local macro_rules | `(tactic| walk_at "binaryOp Mod int int") => `(tactic| (k_here; (with_reducible refine my_fmod (by kct_strs) ?_); intros; (try k_fold)))
local macro_rules | `(tactic| walk_at "call builtin:abs") => `(tactic| (k_here; (with_reducible refine my_abs ?_); intros; (try k_fold)))
-- a contract in use: x the address, c the contract
local macro_rules | `(tactic| ktr_call $x:term $c:term) => `(tactic| (k_here; (with_reducible show wpAny _ _ (PySem.call (Value.ref $x) _) _ _ _); k_dflt (first
  | ((first | refine' calls_RI $c (by regstrif_fact) ?_ | refine' calls_RV $c (by regstrif_fact) ?_ | refine' calls_RL $c (by regstrif_fact) ?_ | refine' calls_RT $c (by regstrif_fact) ?_ | refine' calls_RW $c (by regstrif_fact) ?_); intros; regstrif_slice)
  | ((first | refine' calls_KO $c (by regstrif_fact) ?_ ?_ | refine' calls_RO $c (by regstrif_fact) ?_ ?_ | refine' callsX_RI $c (by regstrif_fact) ?_ ?_ | refine' callsX_RT $c (by regstrif_fact) ?_ ?_) <;> (intros; regstrif_slice))
  | (refine' calls_RB $c (by regstrif_fact) ?_ ?_ <;> (intro hl' h' tk' F' N'; first | exact absurd True.intro hl' | exact absurd (by kbo_bools) hl' | exact absurd hl' (by kbo_bools) | regstrif_slice)))))
local macro_rules | `(tactic| walk_at "eval Call") => `(tactic| ((with_reducible show wpAny _ _ (PySem.eval (PySem.Expr.Call (PySem.Expr.Name _ _) _ [] _) _) _ _ _); k_dflt (refine Call_ ?_)))
local macro_rules | `(tactic| walk_at "compareOp In int ref") => `(tactic| (k_here; k_dflt (refine' my_in ?t ?i ?_ ?_; (case t => first | exact tupK (Frag.In.keeps (by k_asm) (Fr.keep (by k_asm))) (by k_is) | exact News.isTup (by k_asm) (by k_mem)); (case i => repeat constructor)); all_goals (intro hm'; (try simp only [List.mem_cons, List.mem_nil_iff, or_false, not_or] at hm'))))
local macro_rules | `(tactic| walk_at "ite") => `(tactic| (k_here; first
  | with_reducible refine ite_tt ?_
  | with_reducible refine ite_ff ?_
  | with_reducible refine split_not ?_
  | ((first | with_reducible refine split_dec ?_ ?_ | with_reducible refine split_ieq ?_ ?_ | with_reducible refine split_ine ?_ ?_) <;> intro hc' <;> (try (exfalso; omega)))))
local macro_rules | `(tactic| ktn_open) => `(tactic| first | exact AtN.head | (refine' AtN.tail ?b; (case b => ktn_open)) | exact PutN.head | (refine' PutN.tail ?b; (case b => ktn_open)) | exact List.mem_cons_self | (refine' List.mem_cons_of_mem _ ?b; (case b => ktn_open)))
local macro_rules | `(tactic| walk_at "eval Name") => `(tactic| (k_here; k_dflt (first
  | (refine' nameM ?F ?O ?a ?_; (case F => k_asm); (case O => with_reducible assumption); (case a => with_reducible ktn_open))
  | (refine' nameT ?F ?X ?T ?O ?a ?e ?_; (case F => k_asm); (case X => k_asm); (case T => k_asm); (case O => with_reducible assumption); (case a => with_reducible ktn_open); (case e => with_reducible ktn_open)))))
local macro_rules | `(tactic| walk_at "loadName") => `(tactic| (k_here; k_dflt (refine' nameMl (by k_asm) (by kbo_bools) (by kba_ints) ?_)))
local macro_rules | `(tactic| walk_at "storeName") => `(tactic| (k_here; k_dflt (refine' storeM (by k_asm) (by k_asm) (by kbo_bools) (by kba_ints) ?_; intros; (try k_sweep); (try dsimp only))))
local macro_rules | `(tactic| cell_end $as:term $rest:term $gs:term) => `(tactic| (refine wpAny_call ?_; k_dflt (refine' enterM $as $rest $gs (by k_asm) (by k_asm) (by k_asm) (by k_asm) (by k_asm) rfl rfl (by first | assumption | exact rfl) (by k_is) (by k_is) (by ktr_room) rfl rfl (LocOk.of (by decide +kernel)) ?_ rfl rfl (by decide); intro g' L' h' tk' FG' F' N' B' X' T' O'; (try simp only [List.cons_append, List.nil_append, List.map_cons, List.map_nil] at F' O'); (try dsimp only); (try k_fold))))
local macro_rules | `(tactic| cell_step) => `(tactic| (refine wpAny_call ?_; k_dflt (refine' code_def (by k_asm) (by k_asm) (by k_asm) (by k_asm) (by k_asm) rfl rfl (by assumption) (by k_is) (by k_is) (by ktr_room) (by first | exact BindsTo.of_eq rfl | exact binds_K (by k_in) rfl (by k_is) rfl rfl rfl) (locs rfl) ?_ rfl rfl rfl (by decide); k_whole; intros; (try dsimp only); (try k_fold))))
local macro_rules | `(tactic| walk_at "binaryOp Mult int int") => `(tactic| (k_here; k_dflt (first | with_reducible refine mul_int ?_ (IntMulOk.of_left (intBits_le_64 (by decide) (by decide))) | with_reducible refine mul_int ?_ (IntMulOk.of_right (intBits_le_64 (by kct_strs) (by kct_strs))))))
local macro_rules | `(tactic| walk_at "call builtin:divmod") => `(tactic| (k_here; k_dflt (refine' my_divmod (by k_asm) (by k_asm) (by kct_strs) (by kct_strs) ?_; intros; regstrif_slice)))
local macro_rules | `(tactic| walk_at "TurnT") => `(tactic| (k_dflt (first | (with_reducible refine TurnT.ret ?_) | (with_reducible refine TurnT.brk ?_) | refine' TurnT.next (by k_asm) (by k_asm) (by regstrif_gather) ?_ | refine' TurnT.cont (by k_asm) (by k_asm) (by regstrif_gather) ?_)))
local macro_rules | `(tactic| walk_at "RestT") => `(tactic| (k_dflt (first | refine RestT.turn ?_ | refine RestT.zero ?_); intros; regstrif_slice))
local macro_rules | `(tactic| walk_at "pyIter ref") => `(tactic| k_dflt (k_here; (with_reducible show wpAny _ _ (pyIter (Value.ref _)) (fun it s₂ => TurnsAt _ _ _ _ _ _ _ _ _ it s₂) _ _); refine' iter_tupT rfl (by k_asm) (by k_asm) (by k_mem) ?_; intros))
local macro_rules | `(tactic| cell_ask $p:term) => `(tactic| ((fail_if_success (with_reducible show wpAny _ _ _ (MeetEnd _ _ _ _ _ _) _ _)); k_here; k_dflt (refine' meet_any $p (by k_asm) (by k_asm) ?_ ?k; (case' k => (intros; regstrif_slice)))))
local macro_rules | `(tactic| regloopunroll_open) => `(tactic| (k_here; (refine' leave_onS ?a ?b ?c ?d ?_; (case c => assumption); (case b => assumption); (case a => assumption); (case d => assumption); k_whole; intro h' S' R' U'; (try dsimp only at S' R' U' ⊢))))
local macro_rules | `(tactic| k_steps) => `(tactic| repeat' (first | (k_unfold; (try dsimp only)) | walk1 | (dsimp only; walk1) | fail "no step"))
section
set_option maxRecDepth 100000 in
set_option maxHeartbeats 1000000 in
theorem c_isleap (y : Int) (ty : Tok) : CallsTo 1 21 [.int y ty] (RB (LeapG y)) := by
  unfold CallsTo
  k_fill
  w_top off
  intro w mean mg mb dp un gd cn cs a' ccd cl outer A₀ base h₀ L fm news s Q E B F X N T hk hd hu hret
  cell_end ["year"] [] []
  k_steps
  all_goals (refine ret_sub hret [] (RB.of ?_) (by assumption) (by assumption) (fun p hp => hp))
  all_goals (simp only [LeapG, beq_iff_eq, bne_iff_ne, ne_eq]; omega)
end
section
-- legal_date of gregorian
local macro_rules | `(tactic| walk_at "call ref") => `(tactic| ktr_call 21 (c_isleap _ _))
set_option maxRecDepth 100000 in
set_option maxHeartbeats 1000000 in
theorem c_legalG (y m d : Int) (t1 t2 t3 : Tok) (hL : LegalG y m d) : CallsTo 2 43 [.int y t1, .int m t2, .int d t3] (RB True) := by
  unfold CallsTo
  k_fill
  w_top off
  intro w mean mg mb dp un gd cn cs a' ccd cl outer A₀ base h₀ L fm news s Q E B F X N T hk hd hu hret
  obtain ⟨h0, hL⟩ := hL
  rcases hL with ⟨rfl, hl, h1⟩ | ⟨rfl, hl, h1⟩ | ⟨h2, h1⟩ | ⟨⟨h2, h3, h4, h5, h6⟩, h1⟩
  · cell_end ["year", "month", "day"] ["daysinmonth"] ["isleap", "HAVE_30_DAYS", "ValueError"]
    k_steps
    all_goals (refine ret_sub hret [] (RB.ofT trivial) (by assumption) (by assumption) (fun p hp => hp))
  · cell_end ["year", "month", "day"] ["daysinmonth"] ["isleap", "HAVE_30_DAYS", "ValueError"]
    k_steps
    all_goals (refine ret_sub hret [] (RB.ofT trivial) (by assumption) (by assumption) (fun p hp => hp))
  · cell_end ["year", "month", "day"] ["daysinmonth"] ["isleap", "HAVE_30_DAYS", "ValueError"]
    k_steps
    all_goals (refine ret_sub hret [] (RB.ofT trivial) (by assumption) (by assumption) (fun p hp => hp))
  · cell_end ["year", "month", "day"] ["daysinmonth"] ["isleap", "HAVE_30_DAYS", "ValueError"]
    k_steps
    all_goals (refine ret_sub hret [] (RB.ofT trivial) (by assumption) (by assumption) (fun p hp => hp))
end
section
local macro_rules | `(tactic| walk_at "no such key") => `(tactic| skip)
theorem jg1 {y m d v a b c e : Int} (h : m ≤ 2) (ha : a = (y - 1) / 4) (hb : b = (y - 1) / 100) (hc : c = (y - 1) / 400) (he : e = (367 * m - 362) / 12) (hv : v = 1721426 - 1 + 365 * (y - 1) + a + -b + c + (e + 0 + d)) : JGs y m d v :=
  ⟨0, fun _ => rfl, fun h' => by omega, fun h' => by omega, by subst ha hb hc he; omega⟩
theorem jg2 {y m d v a b c e : Int} (h : ¬ m ≤ 2) (hl : LeapG y) (ha : a = (y - 1) / 4) (hb : b = (y - 1) / 100) (hc : c = (y - 1) / 400) (he : e = (367 * m - 362) / 12) (hv : v = 1721426 - 1 + 365 * (y - 1) + a + -b + c + (e + -1 + d)) : JGs y m d v :=
  ⟨-1, fun h' => by omega, fun _ _ => rfl, fun _ h' => absurd hl h', by subst ha hb hc he; omega⟩
theorem jg3 {y m d v a b c e : Int} (h : ¬ m ≤ 2) (hl : ¬ LeapG y) (ha : a = (y - 1) / 4) (hb : b = (y - 1) / 100) (hc : c = (y - 1) / 400) (he : e = (367 * m - 362) / 12) (hv : v = 1721426 - 1 + 365 * (y - 1) + a + -b + c + (e + -2 + d)) : JGs y m d v :=
  ⟨-2, fun h' => by omega, fun _ h' => absurd h' hl, fun _ _ => rfl, by subst ha hb hc he; omega⟩
local macro_rules | `(tactic| walk_at "call ref") => `(tactic| first | (ktr_call 43 (c_legalG _ _ _ _ _ _ (by assumption))) | (ktr_call 21 (c_isleap _ _)))
set_option maxRecDepth 100000 in
set_option maxHeartbeats 1000000 in
theorem c_toJdG (y m d : Int) (t1 t2 t3 : Tok) (hL : LegalG y m d) : CallsTo 3 50 [.int y t1, .int m t2, .int d t3] (RI (JGs y m d)) := by
  unfold CallsTo
  k_fill
  w_top off
  intro w mean mg mb dp un gd cn cs a' ccd cl outer A₀ base h₀ L fm news s Q E B F X N T hk hd hu hret
  cell_end ["year", "month", "day"] ["leap_adj"] ["legal_date", "isleap", "EPOCH_gregorian", "YEAR_DAYS", "LEAP_CYCLE_YEARS", "LEAP_SUPPRESSION_YEARS", "INTERCALATION_CYCLE_YEARS"]
  k_steps
  all_goals (refine ret_sub hret [] (RI.of ?_) (by assumption) (by assumption) (fun p hp => hp))
  · exact jg1 (by assumption) (by assumption) (by assumption) (by assumption) (by assumption) rfl
  · exact jg2 (by assumption) (by assumption) (by assumption) (by assumption) (by assumption) (by assumption) rfl
  · exact jg3 (by assumption) (by assumption) (by assumption) (by assumption) (by assumption) (by assumption) rfl
end
section
theorem legal1 (y m : Int) : LegalG y m 1 := by
  unfold LegalG
  by_cases hl : LeapG y <;> simp only [hl, true_and, not_true_eq_false, not_false_eq_true, false_and, and_false, or_false, false_or] <;> omega
local macro_rules | `(tactic| walk_at "call ref") => `(tactic| first | (ktr_call 50 (c_toJdG _ _ _ _ _ _ (legal1 _ _))) | (ktr_call 21 (c_isleap _ _)))
set_option maxRecDepth 100000 in
set_option maxHeartbeats 1000000 in
theorem c_fromJd (jd : Int) (t1 : Tok) : CallsTo 4 57 [.int jd t1] (RT (IsDate jd)) := by
  unfold CallsTo
  k_fill
  w_top off
  intro w mean mg mb dp un gd cn cs a' ccd cl outer A₀ base h₀ L fm news s Q E B F X N T hk hd hu hret
  cell_end ["jd"] ["wjd", "depoch", "quadricent", "dqc", "cent", "dcent", "quad", "dquad", "yindex", "year", "yearday", "leap", "leap_adj", "month", "day"] ["EPOCH_gregorian", "INTERCALATION_CYCLE_DAYS", "LEAP_SUPPRESSION_DAYS", "LEAP_CYCLE_DAYS", "YEAR_DAYS", "INTERCALATION_CYCLE_YEARS", "LEAP_SUPPRESSION_YEARS", "LEAP_CYCLE_YEARS", "to_jd_gregorian", "isleap", "int"]
  k_steps
  all_goals (refine ret_sub hret [_] (RT.of ?_) (by assumption) (by assumption) (fun p hp => hp))
  all_goals (
    refine' fromJd_fin (year_fin ?a7 ?a6 ?a5 ?a4 ?a3 ?a2 ?a1 ?aY) ?aj ?aa ?am ?ak
    (case a7 => assumption)
    (case a6 => assumption)
    (case a5 => assumption)
    (case a4 => assumption)
    (case a3 => assumption)
    (case a2 => assumption)
    (case a1 => assumption)
    (case ak => assumption)
    (case am => assumption)
    (case aj => assumption)
    (case aY => first | exact .inl ⟨.inl (by assumption), rfl⟩ | exact .inl ⟨.inr (by assumption), rfl⟩ | exact .inr ⟨by assumption, by assumption, rfl⟩)
    (case aa => first | exact adj1 (by assumption) (by assumption) | exact adj2 (by assumption) (by assumption) | exact adj3 (by assumption) (by assumption) | exact adj4 (by assumption) (by assumption)))
end
section
set_option maxRecDepth 100000 in
set_option maxHeartbeats 1000000 in
theorem c_long (y : Int) (ty : Tok) : CallsTo 1 229 [.int y ty] (RV (fun b => (LeapG y ∧ b = true) ∨ (¬ LeapG y ∧ b = false))) := by
  unfold CallsTo
  k_fill
  w_top off
  intro w mean mg mb dp un gd cn cs a' ccd cl outer A₀ base h₀ L fm news s Q E B F X N T hk hd hu hret
  cell_end ["year"] [] []
  k_steps
  all_goals (refine ret_sub hret [] (RV.of ?_) (by assumption) (by assumption) (fun p hp => hp))
  all_goals (simp only [LeapG, beq_iff_eq, bne_iff_ne, ne_eq, beq_eq_false_iff_ne, bne_eq_false_iff_eq]; omega)
set_option maxRecDepth 100000 in
set_option maxHeartbeats 1000000 in
theorem c_sizes (b : Bool) : CallsTo 1 236 [.bool b] (RL (fun zs => zs = sizesOf b)) := by
  unfold CallsTo
  k_fill
  w_top off
  intro w mean mg mb dp un gd cn cs a' ccd cl outer A₀ base h₀ L fm news s Q E B F X N T hk hd hu hret
  cases b
  · cell_end ["long"] [] []
    k_steps
    refine ret_sub hret [_] (RL.of (zs := [31, 28, 31, 30, 31, 30, 31, 31, 30, 31, 30, 31]) ?_ rfl) (by assumption) (by assumption) (fun p hp => hp)
    repeat constructor
  · cell_end ["long"] [] []
    k_steps
    refine ret_sub hret [_] (RL.of (zs := [31, 29, 31, 30, 31, 30, 31, 31, 30, 31, 30, 31]) ?_ rfl) (by assumption) (by assumption) (fun p hp => hp)
    repeat constructor
end
section
theorem lawG_year2 {jd q r r1 y1 r2 y2 r3 y3 : Int} (hq : q = (jd - 1721426) / 146097) (hr : r = (jd - 1721426) % 146097) (g1 : GF 36524 100 r (400 * q + 1) 3 r1 y1) (g2 : GF 1461 4 r1 y1 24 r2 y2) (g3 : GF 365 1 r2 y2 3 r3 y3) :
    r3 = jd - J0 y3 ∧ r3 ≤ 365 ∧ (r3 = 365 → LeapG y3) := by
  obtain ⟨q1, a1, a2, a3, a4, a5, a6⟩ := g1
  obtain ⟨q2, b1, b2, b3, b4, b5, b6⟩ := g2
  obtain ⟨q3, c1, c2, c3, c4, c5, c6⟩ := g3
  exact lawG_year hq hr rfl a1 a2 a3 a4 a5 a6 b1 b2 b3 b4 b5 b6 c1 c2 c3 c4 c5 c6
-- a loop of _law_gregorian over range(n); the loop over the months' sizes
local macro_rules | `(tactic| ktr_call $x:term $iv:term) => `(tactic| (refine' $iv rfl (by assumption) (by decide) (by decide) (by k_asm) (by k_asm) (by assumption) (by first | assumption | omega) ?_ ?_ <;> (intros; regstrif_slice)))
local macro_rules | `(tactic| walk_at "pyIter ref") => `(tactic| k_dflt (k_here; (with_reducible show wpAny _ _ (pyIter (Value.ref _)) _ _ _); first
  | ktr_call 0 (g_loop (k0 := none) 36524 100 3)
  | ktr_call 0 (g_loop 1461 4 24)
  | ktr_call 0 (g_loop 365 1 3)
  | (refine' s_loop rfl (by k_asm) (by k_asm) (by assumption) (by k_mem) (by assumption) (by assumption) ?_ ?_ ?_ <;> (intros; (try regstrif_slice)))))
local macro_rules | `(tactic| walk_at "call ref") => `(tactic| first | ktr_call 229 (c_long _ _) | ktr_call 236 (c_sizes _))
set_option maxRecDepth 100000 in
set_option maxHeartbeats 1000000 in
theorem c_lawG (jd : Int) (ty : Tok) : CallsTo 2 222 [.int jd ty] (RT (IsDate jd)) := by
  unfold CallsTo
  k_fill
  w_top off
  intro w mean mg mb dp un gd cn cs a' ccd cl outer A₀ base h₀ L fm news s Q E B F X N T hk hd hu hret
  cell_end ["jd"] ["rows", "rest", "year", "k", "month", "size"] ["divmod", "range", "_law_sizes", "_law_long"]
  k_steps
  all_goals first
    | ((rename (SF _ _ _ _ _) => hs')
       (rename (_ = sizesOf _) => hz')
       rw [hz'] at hs'
       exact lawG_no (lawG_year2 (by assumption) (by assumption) (by assumption) (by assumption) (by assumption)) (by assumption) hs'.2.1 hs'.2.2)
    | ((rename (∀ (_ _ : Int) (_ _ : Tok) (_ : Heap) (_ : Nat) (_ : List (Addr × Obj)), _) => hT)
       exact hT _ _ _ _ _ _ _ (by assumption) (by assumption) (by regstrif_gather) (by first | exact .inl ⟨by assumption, rfl, rfl⟩ | exact .inr ⟨by assumption, rfl, rfl⟩))
    | ((rename (∀ (_ : Heap) (_ : Nat) (_ : List (Addr × Obj)), _) => hT)
       exact hT _ _ _ (by assumption) (by assumption) (by assumption) (by regstrif_gather))
    | ((rename (∀ (_ _ : Tok) (_ : Heap) (_ : Nat) (_ : List (Addr × Obj)), _) => hT)
       exact hT _ _ _ _ _ (by assumption) (by assumption) (by assumption) (by regstrif_gather))
    | (have hy := lawG_year2 (by assumption) (by assumption) (by assumption) (by assumption) (by assumption)
       (rename (_ = sizesOf _) => hz)
       subst hz
       (rename (SF _ _ _ _ _) => hs)
       refine' ret_RT hret ?y1 ?y2 ?y3 ?_
       (case y1 => assumption)
       (case y2 => assumption)
       (case y3 => regstrif_gather)
       exact lawG_fin hy (by assumption) (by assumption) hs.1 hs.2.1 hs.2.2 (by assumption))
end
section
set_option maxRecDepth 100000 in
set_option maxHeartbeats 1000000 in
theorem c_leapH (y : Int) (ty : Tok) : CallsTo 1 64 [.int y ty] (RB (LeapH y)) := by
  unfold CallsTo
  k_fill
  w_top off
  intro w mean mg mb dp un gd cn cs a' ccd cl outer A₀ base h₀ L fm news s Q E B F X N T hk hd hu hret
  cell_end ["year"] [] []
  k_steps
  all_goals (refine ret_sub hret [] (RB.of ?_) (by assumption) (by assumption) (fun p hp => hp))
  all_goals (simp only [decide_eq_true_eq]; unfold LeapH; omega)
set_option maxRecDepth 100000 in
set_option maxHeartbeats 1000000 in
theorem c_midnight (j : Int) (ty : Tok) (h : 0 < j) : CallsTo 1 28 [.int j ty] (RI (fun v => v = j)) := by
  unfold CallsTo
  k_fill
  w_top off
  intro w mean mg mb dp un gd cn cs a' ccd cl outer A₀ base h₀ L fm news s Q E B F X N T hk hd hu hret
  cell_end ["jd"] [] []
  k_steps
  all_goals (refine ret_sub hret [] (RI.of rfl) (by assumption) (by assumption) (fun p hp => hp))
set_option maxRecDepth 100000 in
set_option maxHeartbeats 1000000 in
theorem c_jwday (j : Int) (ty : Tok) : CallsTo 1 35 [.int j ty] (RI (fun v => v = j % 7)) := by
  unfold CallsTo
  k_fill
  w_top off
  intro w mean mg mb dp un gd cn cs a' ccd cl outer A₀ base h₀ L fm news s Q E B F X N T hk hd hu hret
  cell_end ["j"] [] []
  k_steps
  all_goals (refine ret_sub hret [] (RI.of ?_) (by assumption) (by assumption) (fun p hp => hp))
  all_goals assumption
local macro_rules | `(tactic| walk_at "call ref") => `(tactic| ktr_call 64 (c_leapH _ _))
set_option maxRecDepth 100000 in
set_option maxHeartbeats 1000000 in
theorem c_yearMonths (y : Int) (ty : Tok) : CallsTo 2 71 [.int y ty] (RI (fun v => (LeapH y ∧ v = 13) ∨ (¬ LeapH y ∧ v = 12))) := by
  unfold CallsTo
  k_fill
  w_top off
  intro w mean mg mb dp un gd cn cs a' ccd cl outer A₀ base h₀ L fm news s Q E B F X N T hk hd hu hret
  cell_end ["year"] [] ["leap", "VEADAR", "ADAR"]
  k_steps
  all_goals (refine ret_sub hret [] (RI.of ?_) (by assumption) (by assumption) (fun p hp => hp))
  all_goals first | exact .inl ⟨by assumption, rfl⟩ | exact .inr ⟨by assumption, rfl⟩
set_option maxRecDepth 100000 in
set_option maxHeartbeats 1000000 in
theorem c_delay1 (y : Int) (ty : Tok) : CallsTo 1 78 [.int y ty] (RI (fun v => v = D1 y)) := by
  unfold CallsTo
  k_fill
  w_top off
  intro w mean mg mb dp un gd cn cs a' ccd cl outer A₀ base h₀ L fm news s Q E B F X N T hk hd hu hret
  cell_end ["year"] ["months", "parts", "day"] []
  k_steps
  all_goals (refine ret_sub hret [] (RI.of ?_) (by assumption) (by assumption) (fun p hp => hp))
  all_goals first | exact d1_fin1 (by assumption) (by assumption) (by omega) | exact d1_fin2 (by assumption) (by assumption) (by omega)
local macro_rules | `(tactic| walk_at "call ref") => `(tactic| ktr_call 78 (c_delay1 _ _))
set_option maxRecDepth 100000 in
set_option maxHeartbeats 1000000 in
theorem c_delay2 (y : Int) (ty : Tok) : CallsTo 2 85 [.int y ty] (RI (fun v => v = D2 y)) := by
  unfold CallsTo
  k_fill
  w_top off
  intro w mean mg mb dp un gd cn cs a' ccd cl outer A₀ base h₀ L fm news s Q E B F X N T hk hd hu hret
  cell_end ["year"] ["last", "present", "next_"] ["delay_1"]
  k_steps
  all_goals (refine ret_sub hret [] (RI.of ?_) (by assumption) (by assumption) (fun p hp => hp))
  all_goals (subst_vars; unfold D2; split <;> (try split) <;> omega)
set_option maxRecDepth 100000 in
set_option maxHeartbeats 1000000 in
theorem c_thirteen (y : Int) (ty : Tok) : CallsTo 1 243 [.int y ty] (RB (LeapH y)) := by
  unfold CallsTo
  k_fill
  w_top off
  intro w mean mg mb dp un gd cn cs a' ccd cl outer A₀ base h₀ L fm news s Q E B F X N T hk hd hu hret
  cell_end ["year"] [] []
  k_steps
  all_goals (refine ret_sub hret [] (RB.of ?_) (by assumption) (by assumption) (fun p hp => by repeat (first | exact hp | refine List.mem_cons_of_mem _ ?_)))
  all_goals (rw [leapH_mod]; simp; omega)
end
section
local macro_rules | `(tactic| walk_at "call ref") => `(tactic| first | (ktr_call 28 (c_midnight _ _ (by omega))) | (ktr_call 85 (c_delay2 _ _)) | (ktr_call 78 (c_delay1 _ _)) | (ktr_call 71 (c_yearMonths _ _)))
set_option maxRecDepth 100000 in
set_option maxHeartbeats 1000000 in
theorem c_toJd71 (y : Int) (t1 t2 t3 : Tok) (hy : 1 ≤ y) : CallsTo 3 113 [.int y t1, .int 7 t2, .int 1 t3] (RI (fun v => v = NY y)) := by
  unfold CallsTo
  k_fill
  w_top off
  intro w mean mg mb dp un gd cn cs a' ccd cl outer A₀ base h₀ L fm news s Q E B F X N T hk hd hu hret
  have hpos := d_pos hy
  cell_end ["year", "month", "day"] ["months", "jd", "m"] ["year_months", "EPOCH_hebrew", "delay_1", "delay_2", "TISHRI", "range", "month_days", "NISAN", "midnight"]
  k_steps
  all_goals (refine ret_sub hret [] (RI.of ?_) (by assumption) (by assumption) (fun p hp => by repeat (first | exact hp | refine List.mem_cons_of_mem _ ?_)))
  all_goals (unfold NY; omega)
theorem c_toJd71n (y : Int) (t1 t2 t3 : Tok) (hy : 0 ≤ y) : CallsTo 3 113 [.int (y + 1) t1, .int 7 t2, .int 1 t3] (RI (fun v => v = NY (y + 1))) := c_toJd71 _ _ _ _ (by omega)
local macro_rules | `(tactic| walk_at "call ref") => `(tactic| ktr_call 113 (c_toJd71 _ _ _ _ (by omega)))
set_option maxRecDepth 100000 in
set_option maxHeartbeats 1000000 in
theorem c_yearDays (y : Int) (t1 : Tok) (hy : 1 ≤ y) : CallsTo 4 92 [.int y t1] (RI (fun v => v = YD y)) := by
  unfold CallsTo
  k_fill
  w_top off
  intro w mean mg mb dp un gd cn cs a' ccd cl outer A₀ base h₀ L fm news s Q E B F X N T hk hd hu hret
  cell_end ["year"] [] ["to_jd_hebrew"]
  k_steps
  all_goals (refine ret_sub hret [] (RI.of ?_) (by assumption) (by assumption) (fun p hp => hp))
  all_goals (unfold YD; omega)
local macro_rules | `(tactic| walk_at "call ref") => `(tactic| first | (ktr_call 64 (c_leapH _ _)) | (ktr_call 92 (c_yearDays _ _ (by omega))))
set_option maxRecDepth 100000 in
set_option maxHeartbeats 1000000 in
theorem c_monthLength (y m : Int) (t1 t2 : Tok) (hy : 1 ≤ y) (h1 : 1 ≤ m) (h2 : m ≤ 13) : CallsTo 5 99 [.int y t1, .int m t2] (RI (fun v => v = ML y m)) := by
  unfold CallsTo
  k_fill
  w_top off
  intro w mean mg mb dp un gd cn cs a' ccd cl outer A₀ base h₀ L fm news s Q E B F X N T hk hd hu hret
  cell_end ["year", "month"] [] ["VEADAR", "ValueError", "IYYAR", "TAMMUZ", "ELUL", "TEVETH", "ADAR", "leap", "HESHVAN", "year_days", "KISLEV"]
  k_steps
  all_goals (refine ret_sub hret [] (RI.of (ml_of ?_)) (by assumption) (by assumption) (fun p hp => by repeat (first | exact hp | refine List.mem_cons_of_mem _ ?_)))
  all_goals (unfold MLp)
  all_goals first
    | exact .inl ⟨by assumption, rfl⟩
    | exact .inr (.inl ⟨by assumption, .inl ⟨by assumption, rfl⟩⟩)
    | exact .inr (.inl ⟨by assumption, .inr ⟨by assumption, rfl⟩⟩)
    | exact .inr (.inr (.inl ⟨by assumption, by omega⟩))
    | exact .inr (.inr (.inr (.inl ⟨by assumption, by omega⟩)))
    | exact .inr (.inr (.inr (.inr ⟨by omega, rfl⟩)))
local macro_rules | `(tactic| walk_at "call ref") => `(tactic| ktr_call 99 (c_monthLength _ _ _ _ (by omega) (by omega) (by omega)))
set_option maxRecDepth 100000 in
set_option maxHeartbeats 1000000 in
theorem c_monthDays (y m : Int) (t1 t2 : Tok) (hy : 1 ≤ y) (h1 : 1 ≤ m) (h2 : m ≤ 13) : CallsTo 6 106 [.int y t1, .int m t2] (RI (fun v => v = ML y m)) := by
  unfold CallsTo
  k_fill
  w_top off
  intro w mean mg mb dp un gd cn cs a' ccd cl outer A₀ base h₀ L fm news s Q E B F X N T hk hd hu hret
  cell_end ["year", "month"] [] ["month_length"]
  k_steps
  all_goals (refine ret_sub hret [] (RI.of (by assumption)) (by assumption) (by assumption) (fun p hp => hp))
end
section
theorem ivm_sm {y a j j0 : Int} {n : Nat} (h : j = j0 + SM y a n) : j0 ≤ j := by
  have := sm_pos y a n
  omega
theorem hj_a {y m d j0 j1 j2 ms v d1 d2 : Int} (hm : m < 7) (hms : (LeapH y ∧ ms = 13) ∨ (¬ LeapH y ∧ ms = 12)) (h1 : d1 = D1 y) (h2 : d2 = D2 y) (ha : j1 = j0 + SM y 7 (ms + 1 - 7).toNat) (hj0 : j0 = 347996 + d1 + d2 + d + 1) (hb : j2 = j1 + SM y 1 (m - 1).toNat) (hv : v = j2) : v = HJ y m d := by
  have e := ym_of hms
  subst e
  unfold HJ Bef NY
  rw [if_pos hm]
  omega
theorem hj_b {y m d j0 j1 v d1 d2 : Int} (hm : ¬ m < 7) (h1 : d1 = D1 y) (h2 : d2 = D2 y) (ha : j1 = j0 + SM y 7 (m - 7).toNat) (hj0 : j0 = 347996 + d1 + d2 + d + 1) (hv : v = j1) : v = HJ y m d := by
  unfold HJ Bef NY
  rw [if_neg hm]
  omega
theorem m_loop {prog : Program} {w : World} {A : Around} {E : Value → Shared → Prop} {s : Shared} {h₀ : Heap} {body : List Stmt} {Q : Flow → Shared → Prop} {cn : Str} {cs : Scope} {L aa : Addr} {ccd : Value} {gs : List Str} {n1 n2 n3 n4 n5 x : Str} {news : List (Addr × Obj)} {r : Addr} {b₀ : Int} {t₀ u₀ v₀ : Tok} {y j0 : Int} {ty tj : Tok} {mo da ms m0 : Option Value} (a : Int) (n : Nat)
    (hh : A.handled = none) (hr : IsRange s.heap r a b₀ 1 t₀ u₀ v₀) (hsmall : Builtin.Range.small a b₀ 1 = true) (hn : Builtin.Range.rangeSize a b₀ 1 = (n : Int))
    (F : Fr h₀ L s.heap (mapOf [n1, n2, n3, n4, n5, x] [some (.int y ty), mo, da, ms, some (.int j0 tj), m0])) (N : News h₀ L s.heap news) (O : LocOk cs [n1, n2, n3, n4, n5, x] gs)
    (turn : ∀ (I : Addr) (it : Obj) (T : Flow → Shared → Prop) (i : Nat) (j : Int) (t tj : Tok) (h : Heap) (tk : Nat), i < n →
      (∀ (k : Int) (tj' : Tok) (h' : Heap) (tk' : Nat) (all : List (Addr × Obj)), k = ML y (a + (i : Int)) → Fr h₀ L h' (mapOf [n1, n2, n3, n4, n5, x] [some (.int y ty), mo, da, ms, some (.int (j + k) tj'), some (.int (a + (i : Int)) t)]) → News h₀ L h' all → (∀ p ∈ (I, it) :: news, p ∈ all) → T .next { s with heap := h', toks := tk' }) →
      Fr h₀ L h (mapOf [n1, n2, n3, n4, n5, x] [some (.int y ty), mo, da, ms, some (.int j tj), some (.int (a + (i : Int)) t)]) → News h₀ L h ((I, it) :: news) →
      wpAny (model prog w) A (execs body (envOf cn cs L aa ccd)) T E { s with heap := h, toks := tk })
    (done : ∀ (j : Int) (tj : Tok) (m1 : Option Value) (h : Heap) (tk : Nat), j = j0 + SM y a n → j0 ≤ j → Fr h₀ L h (mapOf [n1, n2, n3, n4, n5, x] [some (.int y ty), mo, da, ms, some (.int j tj), m1]) → News h₀ L h news → Q .next { s with heap := h, toks := tk }) :
    wpAny (model prog w) A (pyIter (.ref r)) (fun it s₂ => LoopAtV prog w A h₀ (envOf cn cs L aa ccd) x body Q E it s₂) E s := by
  refine range_invM n (fun _ i vs => ∃ (j : Int) (tj : Tok) (m1 : Option Value), vs = [some (.int y ty), mo, da, ms, some (.int j tj), m1] ∧ j = j0 + SM y a i) hh hr hsmall hn F N ⟨j0, tj, m0, rfl, by simp [SM]⟩ ?_ ?_
  · rintro I i vs t h tk hI hi ⟨j, tj, m1, rfl, g⟩ F' N'
    have F'' := frPut F' O (.tail (.tail (.tail (.tail (.tail .head)))))
    refine turn I _ _ i j t tj h tk hi ?_ F'' N'
    rintro k tj' h' tk' all hk Fa Na hs
    exact TurnM.next Fa Na hs ⟨_, tj', _, rfl, by simp only [SM]; omega⟩
  · rintro vs h tk ⟨j, tj, m1, rfl, g⟩ F' N'
    exact done j tj m1 h tk g (ivm_sm g) F' N'
local macro_rules | `(tactic| ktr_call $x:term $iv:term) => `(tactic| ((rename IsRange _ _ $x _ 1 _ _ _ => hX'); refine' $iv rfl (by assumption) (range_small (by omega) (by omega) (by omega) (by omega)) (range_size _ _) (by k_asm) (by k_asm) (by assumption) ?_ ?_ <;> (intros; regstrif_slice)))
local macro_rules | `(tactic| walk_at "pyIter ref") => `(tactic| k_dflt (k_here; (with_reducible show wpAny _ _ (pyIter (Value.ref _)) _ _ _); first | ktr_call 1 (m_loop 1 (Int.toNat _)) | ktr_call 7 (m_loop 7 (Int.toNat _))))
local macro_rules | `(tactic| walk_at "call ref") => `(tactic| first | (ktr_call 106 (c_monthDays _ _ _ _ (by omega) (by omega) (by omega))) | (ktr_call 28 (c_midnight _ _ (by omega))) | (ktr_call 85 (c_delay2 _ _)) | (ktr_call 78 (c_delay1 _ _)) | (ktr_call 71 (c_yearMonths _ _)))
set_option maxRecDepth 100000 in
set_option maxHeartbeats 1000000 in
theorem c_toJd (y m d : Int) (t1 t2 t3 : Tok) (hy : 1 ≤ y) (h1 : 1 ≤ m) (h2 : m ≤ 13) (hdd : 1 ≤ d) : CallsTo 7 113 [.int y t1, .int m t2, .int d t3] (RI (fun v => v = HJ y m d)) := by
  unfold CallsTo
  k_fill
  w_top off
  intro w mean mg mb dp un gd cn cs a' ccd cl outer A₀ base h₀ L fm news s Q E B F X N T hk hd hu hret
  have hpos := d_pos hy
  cell_end ["year", "month", "day"] ["months", "jd", "m"] ["year_months", "EPOCH_hebrew", "delay_1", "delay_2", "TISHRI", "range", "month_days", "NISAN", "midnight"]
  k_steps
  all_goals (try (
    (rename (∀ (_ : Int) (_ : Tok) (_ : Heap) (_ : Nat) (_ : List (Addr × Obj)), _) => hT)
    exact hT _ _ _ _ _ (by assumption) (by assumption) (by assumption) (by regstrif_gather)))
  all_goals (refine ret_sub hret [] (RI.of ?_) (by assumption) (by assumption) (fun p hp => by repeat (first | exact hp | refine List.mem_cons_of_mem _ ?_)))
  all_goals first
    | exact hj_a (by assumption) (by assumption) (by assumption) (by assumption) (by assumption) rfl (by assumption) (by assumption)
    | exact hj_b (by assumption) (by assumption) (by assumption) (by assumption) rfl (by assumption)
end
section
local macro_rules | `(tactic| walk_at "no such key") => `(tactic| skip)
local macro_rules | `(tactic| walk_at "call ref") => `(tactic| first | (ktr_call 113 (c_toJd _ _ _ _ _ _ (by omega) (by omega) (by omega) (by omega))) | (ktr_call 50 (c_toJdG _ _ _ _ _ _ (legal_of (by assumption)))) | (ktr_call 57 (c_fromJd _ _)))
local macro_rules | `(tactic| walk_at "leaving ref") => `(tactic| (k_here; (refine' leave_raiseS ?k1 ?k0 ?k2 ?k3 ?_; (case k0 => first | assumption | exact Heap.MadeExc.of (by assumption)); (case k2 => assumption); (case k1 => assumption); (case k3 => k_asm); k_whole; intro h' t' S' R' U'; (try dsimp only at S' R' U' ⊢))))
theorem raised_sub {base g h' : Heap} {l : List Env} {e t : Addr} {X : Value} {xs : List Value} {news all : List (Addr × Obj)} (R : RaisedS base g l e X t xs all h') (hs : ∀ p ∈ news, p ∈ all) : RaisedS base g l e X t xs news h' := by
  obtain ⟨⟨B, h1, h2, h3, h4, h5⟩, h6⟩ := R
  exact ⟨⟨B, h1, h2, fun q hq => h3 q (hs q hq), h4, h5⟩, h6⟩
set_option maxRecDepth 100000 in
set_option maxHeartbeats 1000000 in
theorem c_gregYear (g m d : Int) (t1 t2 t3 : Tok) (hg : 0 ≤ g) (h1 : 1 ≤ m) (h2 : m ≤ 13) (hdd : 1 ≤ d) : CallsX 8 120 [.int g t1, .int m t2, .int d t3] (RI (Wit g m d)) (NoW g m d) := by
  unfold CallsX
  k_fill
  w_top off
  intro w mean mg mb dp un gd cn cs a' ccd cl outer A₀ base h₀ L fm news s Q E B F X N T hk hd hu hret hexc
  cell_end ["gregorianyear", "hebrew_month", "hebrew_day"] ["y", "jd", "gd"] ["HEBREW_YEAR_OFFSET", "to_jd_hebrew", "from_jd", "ValueError", "to_jd_gregorian"]
  k_steps
  all_goals first
    | exact ret_sub hret [] (RI.of (wit1 (by assumption) (by assumption) (by assumption) (by assumption))) (by assumption) (by assumption) (fun p hp => by repeat (first | exact hp | refine List.mem_cons_of_mem _ ?_))
    | exact ret_sub hret [] (RI.of (wit2 (by assumption) (by assumption) (by assumption) (by assumption) (by assumption) (by assumption) (by assumption))) (by assumption) (by assumption) (fun p hp => by repeat (first | exact hp | refine List.mem_cons_of_mem _ ?_))
    | exact hexc (noW (by assumption) (by assumption) (by assumption) (by assumption) (by assumption) (by assumption)) _ _ _ _ _ _ (by assumption) (raised_sub (by assumption) (fun p hp => by repeat (first | exact hp | refine List.mem_cons_of_mem _ ?_))) (by assumption)
end
section
theorem thirG_yes {l : List Int} {k : Int} (h : thirB k = true) : thirG l k = l ++ [k] := if_pos h
theorem thirG_no {l : List Int} {k : Int} (h : thirB k = false) : thirG l k = l := if_neg (by rw [h]; decide)
theorem notLeap {y : Int} (h : thirB y = false) : ¬ LeapH y := fun x => by rw [thirB_iff.mpr x] at h; cases h
theorem thirG_grows : KPfGrows thirG := by
  intro l k
  unfold thirG
  split
  · simp
  · omega
theorem mo_len {y q r : Int} (hq : q = (y - 1) / 19) (hr : r = (y - 1) % 19) : 235 * q + 12 * r + ((List.foldl thirG [] (rangeKs 1 (r + 1 - 1).toNat)).length : Int) = Mo y := by
  unfold rangeKs
  rw [thir_len]
  exact moons_is hq hr
theorem c_thirB (y : Int) (ty : Tok) : CallsTo 1 243 [.int y ty] (RW (.bool (thirB y))) :=
  calls_mono (c_thirteen y ty) (by
    rintro nw v ⟨h, (⟨a, b⟩ | ⟨a, b⟩)⟩
    · exact ⟨h, by rw [b, thirB_iff.mpr a]⟩
    · refine ⟨h, ?_⟩
      have : thirB y = false := by
        cases h' : thirB y
        · rfl
        · exact absurd (thirB_iff.mp h') a
      rw [b, this])
local macro_rules | `(tactic| walk_at "call ref") => `(tactic| ktr_call 243 (c_thirB _ _))
local macro_rules | `(tactic| walk_at "CompSrcT") => `(tactic| (k_here; k_dflt (refine LCt.CompSrcT.range (by rfl) (by k_asm) (by k_asm) (by assumption) (by exact Mine.range_small (by omega) (by omega) (by omega) (by omega)) (by exact rangeSize_nat _ _) (by rw [PySem.sizeLine_eq]; omega) ?_; intro g'; (refine' kci_range thirG (fun k' t' I' oI' C' oC' D' m' ys' l' h' tk' E' hlo' hhi' hI' hC' hx' F' N' off' ne' hMark' => ?_) ?_ thirG_grows); kcf_last)))
local macro_rules | `(tactic| walk_at "CompEnd") => `(tactic| k_dflt (first
  | (refine LCg.CompEnd.intro (by assumption) (by assumption) _ ?sub ?off True.intro (kci_el (thirG_yes (by assumption)) rfl rfl); (case sub => intro p h; repeat (first | exact h | refine List.mem_cons_of_mem _ ?_)); (case off => assumption))
  | (refine LCg.CompEnd.intro (by assumption) (by assumption) _ ?sub ?off True.intro (kci_no (thirG_no (by assumption)) rfl); (case sub => intro p h; repeat (first | exact h | refine List.mem_cons_of_mem _ ?_)); (case off => assumption))))
-- the ways through a statement meet: the fifth name holds an int
@[irreducible] def MeetDay (h₀ : Heap) (L : Addr) (ns : List Str) (news : List (Addr × Obj)) (a b c d g : Option Value) (P : Int → Prop) (s : Shared) (f : Flow) (s' : Shared) : Prop :=
  f = .next ∧ ∃ (u : Int) (t : Tok) (h' : Heap) (tk : Nat), s' = { s with heap := h', toks := tk } ∧ Fr h₀ L h' (mapOf ns [a, b, c, d, some (.int u t), g]) ∧ News h₀ L h' news ∧ P u
theorem meetDay_end {h₀ : Heap} {L : Addr} {ns : List Str} {news all : List (Addr × Obj)} {a b c d g : Option Value} {P : Int → Prop} {s : Shared} {u : Int} {t : Tok} {h' : Heap} {tk : Nat} (F : Fr h₀ L h' (mapOf ns [a, b, c, d, some (.int u t), g])) (N : News h₀ L h' all) (hs : ∀ p ∈ news, p ∈ all) (h : P u) : MeetDay h₀ L ns news a b c d g P s .next { s with heap := h', toks := tk } := by
  unfold MeetDay
  exact ⟨rfl, u, t, h', tk, rfl, F, fun p hp => N p (hs p hp), h⟩
theorem meet_day {M : Model} {A : Around} {c₀ : Sem Flow} {s : Shared} {Q : Flow → Shared → Prop} {E : Value → Shared → Prop} {h₀ : Heap} {L : Addr} {ns : List Str} {news : List (Addr × Obj)} {y q : Int} {ty tq : Tok} {b c d g : Option Value}
    (F : Fr h₀ L s.heap (mapOf ns [some (.int y ty), b, c, d, some (.int q tq), g])) (N : News h₀ L s.heap news)
    (h : wpAny M A c₀ (MeetDay h₀ L ns news (some (.int y ty)) b c d g (fun u => ∀ v, Last u v → 347997 + v = NY y) s) E s)
    (k : ∀ (u : Int) (t : Tok) (h' : Heap) (tk : Nat), (∀ v, Last u v → 347997 + v = NY y) → Fr h₀ L h' (mapOf ns [some (.int y ty), b, c, d, some (.int u t), g]) → News h₀ L h' news → Q .next { s with heap := h', toks := tk }) : wpAny M A c₀ Q E s := by
  refine wpAny_mono h ?_ (fun _ _ e => e)
  intro f s' hv
  unfold MeetDay at hv
  obtain ⟨rfl, u, t, h', tk, rfl, F', N', hp⟩ := hv
  exact k u t h' tk hp F' N'
local macro_rules | `(tactic| walk_at "exec If Compare cons cons") => `(tactic| ((fail_if_success (with_reducible show wpAny _ _ _ (MeetDay _ _ _ _ _ _ _ _ _ _ _) _ _)); k_here; k_dflt (refine' meet_day (by k_asm) (by k_asm) ?_ ?k; (case' k => (intros; regstrif_slice)))))
set_option maxRecDepth 100000 in
set_option maxHeartbeats 1000000 in
theorem c_newYear (y : Int) (ty : Tok) : CallsTo 2 248 [.int y ty] (RI (fun v => v = NY y)) := by
  unfold CallsTo
  k_fill
  w_top off
  intro w mean mg mb dp un gd cn cs a' ccd cl outer A₀ base h₀ L fm news s Q E B F X N T hk hd hu hret
  cell_end ["year"] ["rows", "past", "moons", "day", "part"] ["divmod", "len", "range", "_law_thirteen"]
  k_steps
  all_goals first
    | (have hM := mo_len (by assumption) (by assumption)
       (rename (_ = (31524 + _) / 25920) => hq)
       (rename (_ = (31524 + _) % 25920) => hr)
       rw [hM] at hq hr
       refine meetDay_end (by assumption) (by assumption) (by regstrif_gather) (fun v hv => ?_)
       first
       | exact ny_a hq hr (by assumption) hv
       | exact ny_b hq hr (by assumption) (notLeap (by assumption)) (by omega) (by assumption) hv
       | exact ny_c hq hr (by assumption) (thirB_iff.mp (by assumption)) (by omega) (by assumption) hv
       | exact ny_d hq hr (by assumption) (by first | exact .inl (thirB_iff.mp (by assumption)) | exact .inr (.inl (by omega)) | exact .inr (.inr (by assumption))) (by first | exact .inl (notLeap (by assumption)) | exact .inr (.inl (by omega)) | exact .inr (.inr (by assumption))) hv)
    | (refine ret_sub hret [] (RI.of ?_) (by assumption) (by assumption) (by regstrif_gather)
       (rename (∀ v, Last _ v → _) => hP)
       first
       | exact hP _ (.inl ⟨by unfold S7; omega, rfl⟩)
       | exact hP _ (.inr ⟨by unfold S7; omega, rfl⟩))
end
section
theorem meet_int {M : Model} {A : Around} {c : Sem Value} {s : Shared} {Q E : Value → Shared → Prop} {h₀ : Heap} {L : Addr} {ns : List Str} {y z : Int} {ty tz : Tok} {r : Option Value} {news : List (Addr × Obj)} (P : Int → Int → Prop)
    (F : Fr h₀ L s.heap (mapOf ns [some (.int y ty), some (.int z tz), r])) (N : News h₀ L s.heap news)
    (h : wpAny M A c (MeetEnd h₀ L (mapOf ns [some (.int y ty), some (.int z tz), r]) news (P z) s) E s)
    (k : ∀ (n : Int) (t : Tok) (h' : Heap) (tk : Nat), P z n → Fr h₀ L h' (mapOf ns [some (.int y ty), some (.int z tz), r]) → News h₀ L h' news → Q (.int n t) { s with heap := h', toks := tk }) : wpAny M A c Q E s := by
  refine wpAny_mono h ?_ (fun _ _ e => e)
  intro v s' hv
  unfold MeetEnd at hv
  obtain ⟨n, t, h', tk, hp, rfl, rfl, F', N'⟩ := hv
  exact k n t h' tk hp F' N'
local macro_rules | `(tactic| walk_at "call ref") => `(tactic| first | (ktr_call 248 (c_newYear _ _)) | (ktr_call 243 (c_thirB _ _)))
/-- the objects that a list of rows (month, size) stands on -/
abbrev tup2 (c : Nat) (a b : Int) (t1 t2 : Tok) : Obj := { cls := .type "tuple", data := .seq #[.int a t1, .int b t2] c }
inductive RowsAre (news : List (Addr × Obj)) : List Value → List (Int × Int) → Prop
  | nil : RowsAre news [] []
  | cons {D : Addr} {c : Nat} {a b : Int} {t1 t2 : Tok} {items : List Value} {rows : List (Int × Int)} (hm : (D, tup2 c a b t1 t2) ∈ news) (r : RowsAre news items rows) : RowsAre news (.ref D :: items) ((a, b) :: rows)
theorem RowsAre.mono {n n' : List (Addr × Obj)} (h : ∀ p ∈ n, p ∈ n') {items : List Value} {rows : List (Int × Int)} (r : RowsAre n items rows) : RowsAre n' items rows := by
  induction r with
  | nil => exact .nil
  | cons hm _ ih => exact .cons (h _ hm) ih
/-- a new list of rows comes back -/
def RR (P : List (Int × Int) → Prop) (nw : List (Addr × Obj)) (v : Value) : Prop := ∃ D c items rows, v = .ref D ∧ (D, ({ cls := .type "list", data := .seq items.toArray c } : Obj)) ∈ nw ∧ RowsAre nw items rows ∧ P rows
theorem ret_RR {h₀ : Heap} {L : Addr} {m : Str → Option Value} {news all : List (Addr × Obj)} {s : Shared} {Q : Value → Shared → Prop} {P : List (Int × Int) → Prop}
    (ret : ∀ (nw : List (Addr × Obj)) (v : Value) (h' : Heap) (tk' : Nat), RR P nw v → Fr h₀ L h' m → News h₀ L h' (nw ++ news) → Q v { s with heap := h', toks := tk' })
    {D : Addr} {c : Nat} {items : List Value} {rows : List (Int × Int)} {h' : Heap} {tk' : Nat} (F : Fr h₀ L h' m) (N : News h₀ L h' all) (hs : ∀ p ∈ news, p ∈ all) (hm : (D, ({ cls := .type "list", data := .seq items.toArray c } : Obj)) ∈ all) (r : RowsAre all items rows) (hp : P rows) : Q (.ref D) { s with heap := h', toks := tk' } :=
  ret all _ h' tk' ⟨D, c, items, rows, rfl, hm, r, hp⟩ F (fun p hp => by
    rcases List.mem_append.mp hp with h | h
    · exact N p h
    · exact N p (hs p h))
theorem calls_RR {D : Nat} {f : Addr} {vs : List Value} {P : List (Int × Int) → Prop} (C : CallsTo D f vs (RR P))
    {w : World} {mean : ExcName → Option Value} {mg mb : Str → Option Value} {dp un : Nat} {gd : Option (List Code)} {cn : Str} {cs : Scope} {a : Addr} {ccd : Value} {cl : List (Str × Addr)} {outer : List Env} {A₀ : Around} {base h₀ : Heap} {L : Addr} {m : Str → Option Value} {news : List (Addr × Obj)} {s : Shared} {Q E : Value → Shared → Prop}
    (H : Here D w mean mg mb dp un cs outer A₀ base h₀ L m news s)
    (ret : ∀ (rows : List (Int × Int)), P rows → ∀ (all : List (Addr × Obj)) (items : List Value) (D : Addr) (c : Nat), (∀ p ∈ news, p ∈ all) → RowsAre all items rows → (D, ({ cls := .type "list", data := .seq items.toArray c } : Obj)) ∈ all → ∀ (h' : Heap) (tk' : Nat), Fr h₀ L h' m → News h₀ L h' all → Q (.ref D) { s with heap := h', toks := tk' }) :
    wpAny (model PySem.Challenge.rw_ja0023_02.row.prog w) (ktrTop dp un gd cn cs L a ccd cl outer) (call (.ref f) vs) Q E s := by
  refine calls_use C H ?_
  rintro nw _ ⟨D', c, items, rows, rfl, hm, r, hp⟩ h' tk' F' N'
  exact ret rows hp (nw ++ news) items D' c (fun p h => List.mem_append.mpr (.inr h)) (r.mono fun p h => List.mem_append.mpr (.inl h)) (List.mem_append.mpr (.inl hm)) h' tk' F' N'
def rowsOf (l : Bool) (a b : Int) : List (Int × Int) := if l = true then [(7, 30), (8, a), (9, b), (10, 29), (11, 30), (12, 30), (13, 29), (1, 30), (2, 29), (3, 30), (4, 29), (5, 30), (6, 29)] else [(7, 30), (8, a), (9, b), (10, 29), (11, 30), (12, 29), (1, 30), (2, 29), (3, 30), (4, 29), (5, 30), (6, 29)]
theorem rows_leap {y a b : Int} (h : thirB y = true) : [(7, 30), (8, a), (9, b), (10, 29), (11, 30), (12, 30), (13, 29), (1, 30), (2, 29), (3, 30), (4, 29), (5, 30), (6, 29)] = rowsOf (thirB y) a b := by rw [h]; rfl
theorem rows_plain {y a b : Int} (h : thirB y = false) : [(7, 30), (8, a), (9, b), (10, 29), (11, 30), (12, 29), (1, 30), (2, 29), (3, 30), (4, 29), (5, 30), (6, 29)] = rowsOf (thirB y) a b := by rw [h]; rfl
def RowP (y : Int) (rows : List (Int × Int)) : Prop := ∃ a b, Sz1 (YD y) a ∧ Sz2 (YD y) b ∧ rows = rowsOf (thirB y) a b
theorem sz1_cast {i j y n : Int} (hi : i = NY (y + 1)) (hj : j = NY y) (h : Sz1 (i - j) n) : Sz1 (YD y) n := by subst hi hj; exact h
theorem sz2_cast {i j y n : Int} (hi : i = NY (y + 1)) (hj : j = NY y) (h : Sz2 (i - j) n) : Sz2 (YD y) n := by subst hi hj; exact h
section
local macro_rules | `(tactic| cell_ask $p:term) => `(tactic| (refine' meet_int $p (by k_asm) (by k_asm) ?_ ?k; (case' k => (intros; regstrif_slice))))
local macro_rules | `(tactic| walk_at "eval IfExp Compare") => `(tactic| ((fail_if_success (with_reducible show wpAny _ _ _ (MeetEnd _ _ _ _ _ _) _ _)); k_here; k_dflt (first | ((with_reducible show wpAny _ _ (PySem.eval (PySem.Expr.IfExp _ (PySem.Expr.Constant (PySem.Const.int 30) _ _) _ _) _) _ _ _); cell_ask Sz1) | cell_ask Sz2)))
local macro_rules | `(tactic| walk_at "inplaceOp Add ref ref") => `(tactic| (k_here; k_dflt (first
  | (refine' iadd_led (pre := [_, _]) ?F ?N ?b ?e ?z ?a ?c ?_; (case F => k_asm); (case N => k_asm); (case b => k_mem); (case e => exact Nat.succ_ne_zero _); (case z => exact Nat.le_of_ble_eq_true rfl); (case a => exact ⟨by dsimp only; omega, by dsimp only; omega, trivial⟩); (case c => assumption))
  | (refine' iadd_led (pre := [_, _, _]) ?F ?N ?b ?e ?z ?a ?c ?_; (case F => k_asm); (case N => k_asm); (case b => k_mem); (case e => exact Nat.succ_ne_zero _); (case z => exact Nat.le_of_ble_eq_true rfl); (case a => exact ⟨by dsimp only; omega, by dsimp only; omega, by dsimp only; omega, trivial⟩); (case c => assumption))); intro h' F' N'; (try simp only [List.cons_append, List.nil_append] at N'); (try k_sweep)))
set_option maxRecDepth 100000 in
set_option maxHeartbeats 8000000 in
theorem c_row (y : Int) (ty : Tok) : CallsTo 3 255 [.int y ty] (RR (RowP y)) := by
  unfold CallsTo
  k_fill
  w_top off
  intro w mean mg mb dp un gd cn cs a' ccd cl outer A₀ base h₀ L fm news s Q E B F X N T hk hd hu hret
  cell_end ["year"] ["size", "row"] ["_law_new_year", "_law_thirteen"]
  k_steps
  all_goals first
    | exact meet_end (by assumption) (by assumption) (by regstrif_gather) (by first | exact .inl ⟨by omega, rfl⟩ | exact .inr ⟨by omega, rfl⟩)
    | (refine' ret_RR hret (by assumption) (by assumption) (fun p hp => by repeat (first | exact hp | refine List.mem_cons_of_mem _ ?_)) (by k_mem) ?r ?hp
       case r =>
         (try simp only [List.cons_append, List.nil_append])
         first
         | exact .cons (List.mem_of_getElem? (i := 16) rfl) (.cons (List.mem_of_getElem? (i := 15) rfl) (.cons (List.mem_of_getElem? (i := 14) rfl) (.cons (List.mem_of_getElem? (i := 13) rfl) (.cons (List.mem_of_getElem? (i := 12) rfl) (.cons (List.mem_of_getElem? (i := 10) rfl) (.cons (List.mem_of_getElem? (i := 9) rfl) (.cons (List.mem_of_getElem? (i := 7) rfl) (.cons (List.mem_of_getElem? (i := 6) rfl) (.cons (List.mem_of_getElem? (i := 5) rfl) (.cons (List.mem_of_getElem? (i := 4) rfl) (.cons (List.mem_of_getElem? (i := 3) rfl) (.cons (List.mem_of_getElem? (i := 2) rfl) .nil))))))))))))
         | exact .cons (List.mem_of_getElem? (i := 15) rfl) (.cons (List.mem_of_getElem? (i := 14) rfl) (.cons (List.mem_of_getElem? (i := 13) rfl) (.cons (List.mem_of_getElem? (i := 12) rfl) (.cons (List.mem_of_getElem? (i := 11) rfl) (.cons (List.mem_of_getElem? (i := 9) rfl) (.cons (List.mem_of_getElem? (i := 7) rfl) (.cons (List.mem_of_getElem? (i := 6) rfl) (.cons (List.mem_of_getElem? (i := 5) rfl) (.cons (List.mem_of_getElem? (i := 4) rfl) (.cons (List.mem_of_getElem? (i := 3) rfl) (.cons (List.mem_of_getElem? (i := 2) rfl) .nil)))))))))))
       case hp =>
         refine ⟨_, _, sz1_cast (y := y) (by assumption) (by assumption) (by assumption), sz2_cast (y := y) (by assumption) (by assumption) (by assumption), ?_⟩
         first | exact rows_plain (by assumption) | exact rows_leap (by assumption))
end
-- the first row of the month asked for
def findR (m : Int) : List (Int × Int) → Int → Option Int
  | [], _ => none
  | (o, s) :: r, j => if o = m then some j else findR m r (j + s)
theorem find_hit {m a b jd : Int} {post : List (Int × Int)} {R : Option Int} (h : findR m ((a, b) :: post) jd = R) (e : a = m) : R = some jd := by
  unfold findR at h
  rw [if_pos e] at h
  exact h.symm
theorem find_skip {m a b jd : Int} {post : List (Int × Int)} {R : Option Int} (h : findR m ((a, b) :: post) jd = R) (e : ¬ a = m) : findR m post (jd + b) = R := by
  unfold findR at h
  rw [if_neg e] at h
  exact h
theorem find_step {m a b jd j : Int} {post : List (Int × Int)} (h : some jd = findR m ((a, b) :: post) j) : (a = m ∧ jd = j) ∨ some jd = findR m post (j + b) := by
  unfold findR at h
  by_cases e : a = m
  · rw [if_pos e] at h
    exact .inl ⟨e, Option.some.inj h⟩
  · rw [if_neg e] at h
    exact .inr h
theorem find_nil {m jd j : Int} : ¬ some jd = findR m [] j := by
  unfold findR
  intro h
  cases h
theorem num_leap {y m d a b jd : Int} (h1 : Sz1 (YD y) a) (h2 : Sz2 (YD y) b) (hb : thirB y = true) (h : some jd = findR m (rowsOf (thirB y) a b) (NY y)) : InRow y m ∧ jd + d - 1 = HJ y m d := by
  have hl := thirB_iff.mp hb
  rw [hb] at h
  unfold rowsOf at h
  rw [if_pos rfl] at h
  rcases find_step h with ⟨hm, e⟩ | h
  · subst e; exact eL7 h1 h2 hl rfl hm
  rcases find_step h with ⟨hm, e⟩ | h
  · subst e; exact eL8 h1 h2 hl rfl hm
  rcases find_step h with ⟨hm, e⟩ | h
  · subst e; exact eL9 h1 h2 hl rfl hm
  rcases find_step h with ⟨hm, e⟩ | h
  · subst e; exact eL10 h1 h2 hl rfl hm
  rcases find_step h with ⟨hm, e⟩ | h
  · subst e; exact eL11 h1 h2 hl rfl hm
  rcases find_step h with ⟨hm, e⟩ | h
  · subst e; exact eL12 h1 h2 hl rfl hm
  rcases find_step h with ⟨hm, e⟩ | h
  · subst e; exact eL13 h1 h2 hl rfl hm
  rcases find_step h with ⟨hm, e⟩ | h
  · subst e; exact eL1 h1 h2 hl rfl hm
  rcases find_step h with ⟨hm, e⟩ | h
  · subst e; exact eL2 h1 h2 hl rfl hm
  rcases find_step h with ⟨hm, e⟩ | h
  · subst e; exact eL3 h1 h2 hl rfl hm
  rcases find_step h with ⟨hm, e⟩ | h
  · subst e; exact eL4 h1 h2 hl rfl hm
  rcases find_step h with ⟨hm, e⟩ | h
  · subst e; exact eL5 h1 h2 hl rfl hm
  rcases find_step h with ⟨hm, e⟩ | h
  · subst e; exact eL6 h1 h2 hl rfl hm
  exact absurd h find_nil
theorem num_plain {y m d a b jd : Int} (h1 : Sz1 (YD y) a) (h2 : Sz2 (YD y) b) (hb : thirB y = false) (h : some jd = findR m (rowsOf (thirB y) a b) (NY y)) : InRow y m ∧ jd + d - 1 = HJ y m d := by
  have hl := notLeap hb
  rw [hb] at h
  unfold rowsOf at h
  rw [if_neg Bool.false_ne_true] at h
  rcases find_step h with ⟨hm, e⟩ | h
  · subst e; exact eP7 h1 h2 hl rfl hm
  rcases find_step h with ⟨hm, e⟩ | h
  · subst e; exact eP8 h1 h2 hl rfl hm
  rcases find_step h with ⟨hm, e⟩ | h
  · subst e; exact eP9 h1 h2 hl rfl hm
  rcases find_step h with ⟨hm, e⟩ | h
  · subst e; exact eP10 h1 h2 hl rfl hm
  rcases find_step h with ⟨hm, e⟩ | h
  · subst e; exact eP11 h1 h2 hl rfl hm
  rcases find_step h with ⟨hm, e⟩ | h
  · subst e; exact eP12 h1 h2 hl rfl hm
  rcases find_step h with ⟨hm, e⟩ | h
  · subst e; exact eP1 h1 h2 hl rfl hm
  rcases find_step h with ⟨hm, e⟩ | h
  · subst e; exact eP2 h1 h2 hl rfl hm
  rcases find_step h with ⟨hm, e⟩ | h
  · subst e; exact eP3 h1 h2 hl rfl hm
  rcases find_step h with ⟨hm, e⟩ | h
  · subst e; exact eP4 h1 h2 hl rfl hm
  rcases find_step h with ⟨hm, e⟩ | h
  · subst e; exact eP5 h1 h2 hl rfl hm
  rcases find_step h with ⟨hm, e⟩ | h
  · subst e; exact eP6 h1 h2 hl rfl hm
  exact absurd h find_nil
theorem num_hit {y m d jd : Int} {rows : List (Int × Int)} (hp : RowP y rows) (h : some jd = findR m rows (NY y)) : InRow y m ∧ jd + d - 1 = HJ y m d := by
  obtain ⟨a, b, h1, h2, rfl⟩ := hp
  cases hb : thirB y
  · exact num_plain h1 h2 hb h
  · exact num_leap h1 h2 hb h
theorem ne_of_find {m j : Int} : ∀ (rows : List (Int × Int)) (j : Int), findR m rows j = none → ∀ p ∈ rows, p.1 ≠ m
  | [], _, _, p, hp => nomatch hp
  | (o, s) :: r, j, h, p, hp => by
    unfold findR at h
    split at h
    · cases h
    · rcases List.mem_cons.mp hp with e | e
      · rw [e]; assumption
      · exact ne_of_find (m := m) (j := j) r (j + s) h p e
theorem num_no {y m j : Int} {rows : List (Int × Int)} (hp : RowP y rows) (h : findR m rows j = none) : ¬ InRow y m := by
  obtain ⟨a, b, h1, h2, rfl⟩ := hp
  have k := ne_of_find (m := m) (j := j) _ _ h
  intro hr
  have key : ∀ i : Int, (∃ s, (i, s) ∈ rowsOf (thirB y) a b) → i ≠ m := fun i ⟨s, hs⟩ => k _ hs
  have base : ∀ i : Int, 1 ≤ i → i ≤ 12 → ∃ s, (i, s) ∈ rowsOf (thirB y) a b := by
    intro i i1 i2
    have c : i = 1 ∨ i = 2 ∨ i = 3 ∨ i = 4 ∨ i = 5 ∨ i = 6 ∨ i = 7 ∨ i = 8 ∨ i = 9 ∨ i = 10 ∨ i = 11 ∨ i = 12 := by omega
    cases thirB y <;> (unfold rowsOf; rcases c with e | e | e | e | e | e | e | e | e | e | e | e <;> (subst e; simp))
  rcases hr with ⟨m1, m2⟩ | ⟨e, l⟩
  · exact key m (base m m1 m2) rfl
  · refine key m ⟨29, ?_⟩ rfl
    rw [thirB_iff.mpr l, e]
    unfold rowsOf
    simp
@[irreducible] def RowIv (m : Int) (tm : Tok) (y : Int) (ty : Tok) (d : Int) (td : Tok) (R : Option Int) (post : List (Int × Int)) (vs : List (Option Value)) : Prop :=
  ∃ jd tj o z, vs = [some (.int y ty), some (.int m tm), some (.int d td), some (.int jd tj), o, z] ∧ findR m post jd = R
theorem rowIv_mk {m : Int} {tm : Tok} {y : Int} {ty : Tok} {d : Int} {td : Tok} {R : Option Int} {post : List (Int × Int)} {jd : Int} {tj : Tok} {o z : Option Value} (h : findR m post jd = R) : RowIv m tm y ty d td R post [some (.int y ty), some (.int m tm), some (.int d td), some (.int jd tj), o, z] := by
  unfold RowIv; exact ⟨jd, tj, o, z, rfl, h⟩
section
variable {prog : Program} {w : World} {A : Around} {E : Value → Shared → Prop} {h₀ : Heap} {target : PySem.Expr} {body : List Stmt} {Q : Flow → Shared → Prop} {s : Shared} {ns : List Str} {all : List (Addr × Obj)} {I : Addr} {cn : Str} {cs : Scope} {L aa : Addr} {ccd : Value} {m : Int} {tm : Tok} {y : Int} {ty : Tok} {d : Int} {td : Tok} {R : Option Int}
theorem rows_rest
    (turn : ∀ (I : Addr) (it : Obj) (a b : Int) (t1 t2 : Tok) (D : Addr) (c : Nat) (jd : Int) (tj : Tok) (o z : Option Value) (h : Heap) (tk : Nat) (post : List (Int × Int)), findR m ((a, b) :: post) jd = R →
      Fr h₀ L h (mapOf ns [some (.int y ty), some (.int m tm), some (.int d td), some (.int jd tj), o, z]) → News h₀ L h ((D, tup2 c a b t1 t2) :: (I, it) :: all) →
      wpAny (model prog w) A (assign target (envOf cn cs L aa ccd) (.ref D)) (fun _ s₂ => wpAny (model prog w) A (execs body (envOf cn cs L aa ccd)) (TurnT h₀ L { s with heap := h, toks := tk } I it ns all (RowIv m tm y ty d td R post) Q) E s₂) E { s with heap := h, toks := tk })
    (done : ∀ (jd : Int) (tj : Tok) (o z : Option Value) (h : Heap) (tk : Nat), R = none → Fr h₀ L h (mapOf ns [some (.int y ty), some (.int m tm), some (.int d td), some (.int jd tj), o, z]) → News h₀ L h all → Q .next { s with heap := h, toks := tk })
    {items : List Value} {rows : List (Int × Int)} (hr : RowsAre all items rows) : ∀ (vs : List (Option Value)), RowIv m tm y ty d td R rows vs → RestT prog w A E h₀ (envOf cn cs L aa ccd) target body Q s ns all I items vs := by
  induction hr with
  | nil =>
    intro vs hv
    unfold RowIv at hv
    obtain ⟨jd, tj, o, z, rfl, e⟩ := hv
    exact RestT.zero fun h tk F N => done jd tj o z h tk e.symm F N
  | @cons D c a b t1 t2 items' rows' hm r ih =>
    intro vs hv
    unfold RowIv at hv
    obtain ⟨jd, tj, o, z, rfl, e⟩ := hv
    refine RestT.turn fun it h tk F N => ?_
    refine wpAny_mono (turn I it _ _ _ _ _ _ jd tj o z h tk _ e F (fun p hp => by
      rcases List.mem_cons.mp hp with h' | h'
      · rw [h']; exact N _ (List.mem_cons_of_mem _ hm)
      · exact N p h')) (fun _ s₂ h₂ => wpAny_mono h₂ (fun f s₃ p => ?_) fun _ _ e => e) fun _ _ e => e
    have nx : (∃ h' tk' vs', s₃ = { { s with heap := h, toks := tk } with heap := h', toks := tk' } ∧ Fr h₀ L h' (mapOf ns vs') ∧ News h₀ L h' ((I, it) :: all) ∧ RowIv m tm y ty d td R rows' vs') →
        ∃ h' tk' vs', s₃ = { { s with heap := h, toks := tk } with heap := h', toks := tk' } ∧ Fr h₀ L h' (mapOf ns vs') ∧ News h₀ L h' ((I, it) :: all) ∧ RestT prog w A E h₀ (envOf cn cs L aa ccd) target body Q s ns all I items' vs' := by
      rintro ⟨h', tk', vs', e', F', N', i'⟩
      exact ⟨h', tk', vs', e', F', N', ih vs' i'⟩
    cases f with
    | ret v => exact p
    | brk => exact p
    | next => exact nx p
    | cont => exact nx p
theorem rows_loop {ax : Addr} {c : Nat} {items : List Value} {rows : List (Int × Int)} {j : Int} {tj : Tok} {o z : Option Value}
    (hh : A.handled = none) (F : Fr h₀ L s.heap (mapOf ns [some (.int y ty), some (.int m tm), some (.int d td), some (.int j tj), o, z])) (N : News h₀ L s.heap all) (hm : (ax, ({ cls := .type "list", data := .seq items.toArray c } : Obj)) ∈ all) (hr : RowsAre all items rows)
    (turn : ∀ (I : Addr) (it : Obj) (a b : Int) (t1 t2 : Tok) (D : Addr) (c : Nat) (jd : Int) (tj : Tok) (o z : Option Value) (h : Heap) (tk : Nat) (post : List (Int × Int)), findR m ((a, b) :: post) jd = findR m rows j →
      Fr h₀ L h (mapOf ns [some (.int y ty), some (.int m tm), some (.int d td), some (.int jd tj), o, z]) → News h₀ L h ((D, tup2 c a b t1 t2) :: (I, it) :: all) →
      wpAny (model prog w) A (assign target (envOf cn cs L aa ccd) (.ref D)) (fun _ s₂ => wpAny (model prog w) A (execs body (envOf cn cs L aa ccd)) (TurnT h₀ L { s with heap := h, toks := tk } I it ns all (RowIv m tm y ty d td (findR m rows j) post) Q) E s₂) E { s with heap := h, toks := tk })
    (done : ∀ (jd : Int) (tj : Tok) (o z : Option Value) (h : Heap) (tk : Nat), findR m rows j = none → Fr h₀ L h (mapOf ns [some (.int y ty), some (.int m tm), some (.int d td), some (.int jd tj), o, z]) → News h₀ L h all → Q .next { s with heap := h, toks := tk }) :
    wpAny (model prog w) A (pyIter (.ref ax)) (fun it s₂ => TurnsAt prog w A h₀ (envOf cn cs L aa ccd) target body Q E it s₂) E s :=
  iter_listT (env := envOf cn cs L aa ccd) hh F N hm fun _ _ => rows_rest turn done hr _ (rowIv_mk rfl)
end
local macro_rules | `(tactic| walk_at "exec For Tuple Call cons nil") => `(tactic| (k_here; (rename Fr _ _ _ _ => lF'); (with_unfolding_all refine' For_turns lF' ?_)))
local macro_rules | `(tactic| walk_at "call ref") => `(tactic| k_dflt (k_here; (with_reducible show wpAny _ _ (PySem.call (Value.ref 255) _) _ _ _); refine' calls_RR (c_row _ _) (by regstrif_fact) ?_; intros; regstrif_slice))
local macro_rules | `(tactic| walk_at "pyIter ref") => `(tactic| k_dflt (k_here; (with_reducible show wpAny _ _ (pyIter (Value.ref _)) (fun it s₂ => TurnsAt _ _ _ _ _ _ _ _ _ it s₂) _ _); refine' rows_loop rfl (by k_asm) (by k_asm) (by assumption) (by assumption) ?_ ?_ <;> (intros; regstrif_slice)))
set_option maxRecDepth 100000 in
set_option maxHeartbeats 8000000 in
theorem c_number (y m d : Int) (t1 t2 t3 : Tok) : CallsTo 4 262 [.int y t1, .int m t2, .int d t3] (RO (fun v => InRow y m ∧ v = HJ y m d) (¬ InRow y m)) := by
  unfold CallsTo
  k_fill
  w_top off
  intro w mean mg mb dp un gd cn cs a' ccd cl outer A₀ base h₀ L fm news s Q E B F X N T hk hd hu hret
  cell_end ["year", "month", "day"] ["jd", "one", "size"] ["_law_new_year", "_law_row"]
  k_steps
  all_goals first
    | exact rowIv_mk (find_skip (by assumption) (by assumption))
    | (refine ret_sub hret [] (RO.some (num_hit (by assumption) ?_)) (by assumption) (by assumption) (fun p hp => by repeat (first | exact hp | refine List.mem_cons_of_mem _ ?_ | exact (by assumption : ∀ p ∈ news, p ∈ _) p hp))
       (rename (_ = NY y) => hi)
       rw [← hi]
       exact (find_hit (by assumption) (by assumption)).symm)
    | (refine ret_sub hret [] (RO.none (num_no (by assumption) (by assumption))) (by assumption) (by assumption) (fun p hp => by repeat (first | exact hp | refine List.mem_cons_of_mem _ ?_ | exact (by assumption : ∀ p ∈ news, p ∈ _) p hp)))
end
section
local macro_rules | `(tactic| walk_at "call ref") => `(tactic| first | (ktr_call 262 (c_number _ _ _ _ _ _)) | (ktr_call 222 (c_lawG _ _)))
set_option maxRecDepth 100000 in
set_option maxHeartbeats 8000000 in
theorem c_within (g m d : Int) (t1 t2 t3 : Tok) : CallsTo 5 269 [.int g t1, .int m t2, .int d t3] (RO (WitL g m d) (NoL g m d)) := by
  unfold CallsTo
  k_fill
  w_top off
  intro w mean mg mb dp un gd cn cs a' ccd cl outer A₀ base h₀ L fm news s Q E B F X N T hk hd hu hret
  cell_end ["year", "month", "day"] ["other", "jd"] ["_law_number", "_law_gregorian"]
  k_steps
  all_goals first
    | (refine ret_sub hret [] (RO.some ?_) (by assumption) (by assumption) (fun p hp => by repeat (first | exact hp | refine List.mem_cons_of_mem _ ?_))
       first
       | exact witL1 ⟨by assumption, rfl⟩ (by assumption) (by assumption)
       | exact witL2 (by first | exact noL1 ⟨by assumption, rfl⟩ (by assumption) (by assumption) | exact noL0 (by assumption)) ⟨by assumption, rfl⟩ (by assumption) (by assumption))
    | (refine ret_sub hret [] (RO.none ⟨?_, ?_⟩) (by assumption) (by assumption) (fun p hp => by repeat (first | exact hp | refine List.mem_cons_of_mem _ ?_))
       · first | exact noL1 ⟨by assumption, rfl⟩ (by assumption) (by assumption) | exact noL0 (by assumption)
       · first | exact noL2 ⟨by assumption, rfl⟩ (by assumption) (by assumption) | exact noL3 (by assumption))
end
section
theorem k_within (g m d : Int) (t1 t2 t3 : Tok) : CallsTo 5 269 [.int g t1, .int m t2, .int d t3] (RO (fun v => HasV g m d ∧ v = PV g m d) (¬ HasV g m d)) :=
  calls_mono (c_within g m d t1 t2 t3) (by
    intro nw v h
    obtain ⟨e, h⟩ := h
    refine ⟨e, ?_⟩
    rcases h with ⟨i, t, a, b⟩ | ⟨a, b⟩
    · exact .inl ⟨i, t, a, pv_of b⟩
    · exact .inr ⟨nov_of a, b⟩)
theorem k_gregYear (g m d : Int) (t1 t2 t3 : Tok) (hg : 0 ≤ g) (h1 : 1 ≤ m) (h2 : m ≤ 13) (hdd : 1 ≤ d) (ha : Asked g m d) : CallsX 8 120 [.int g t1, .int m t2, .int d t3] (RI (fun v => HasV g m d ∧ v = PV g m d)) (¬ HasV g m d) :=
  callsX_mono (c_gregYear g m d t1 t2 t3 hg h1 h2 hdd) (by
    intro nw v h
    obtain ⟨e, i, t, a, b⟩ := h
    exact ⟨e, i, t, a, pv_of (wit_asked ha b)⟩) (fun x => nov_of (noW_asked ha x))
local macro_rules | `(tactic| walk_at "leaving ref") => `(tactic| regloopunroll_open)
local macro_rules | `(tactic| walk_at "call ref") => `(tactic| first | (ktr_call 57 (c_fromJd _ _)) | (ktr_call 120 (k_gregYear _ _ _ _ _ _ (by omega) (by decide) (by decide) (by decide) (.inl (by decide)))))
set_option maxRecDepth 100000 in
set_option maxHeartbeats 8000000 in
theorem f_hanukkah (y : Int) (ty : Tok) (h1 : 1 ≤ y) (h2 : y ≤ 6000) : CallsX 10 128 [.int y ty] (RT (fun a b c => HasV y 9 25 ∧ IsDate (PV y 9 25) a b c)) (¬ HasV y 9 25) := by
  unfold CallsX
  k_fill
  w_top off
  intro w mean mg mb dp un gd cn cs a' ccd cl outer A₀ base h₀ L fm news s Q E B F X N T hk hd hu hret hexc
  cell_step
  k_steps
  all_goals first
    | exact hexc (by assumption) _ _ _ _ _ _ (by assumption) (by assumption) (by assumption)
    | ((rename (HasV _ _ _ ∧ _) => hv)
       refine ret_RT hret (by assumption) (by assumption) (fun p h => by repeat (first | exact h | refine List.mem_cons_of_mem _ ?_)) ⟨hv.1, ?_⟩
       rw [← hv.2]; assumption)
set_option maxRecDepth 100000 in
set_option maxHeartbeats 8000000 in
theorem e_hanukkah (y : Int) (ty : Tok) (h1 : 1 ≤ y) (h2 : y ≤ 6000) : CallsX 10 128 [.int y ty, .bool true] (RT (fun a b c => HasV y 9 25 ∧ IsDate (PV y 9 25 - 1) a b c)) (¬ HasV y 9 25) := by
  unfold CallsX
  k_fill
  w_top off
  intro w mean mg mb dp un gd cn cs a' ccd cl outer A₀ base h₀ L fm news s Q E B F X N T hk hd hu hret hexc
  cell_step
  k_steps
  all_goals first
    | exact hexc (by assumption) _ _ _ _ _ _ (by assumption) (by assumption) (by assumption)
    | ((rename (HasV _ _ _ ∧ _) => hv)
       refine ret_RT hret (by assumption) (by assumption) (fun p h => by repeat (first | exact h | refine List.mem_cons_of_mem _ ?_)) ⟨hv.1, ?_⟩
       rw [← hv.2]; assumption)
set_option maxRecDepth 100000 in
set_option maxHeartbeats 8000000 in
theorem f_rosh_hashanah (y : Int) (ty : Tok) (h1 : 1 ≤ y) (h2 : y ≤ 6000) : CallsX 10 144 [.int y ty] (RT (fun a b c => HasV y 7 1 ∧ IsDate (PV y 7 1) a b c)) (¬ HasV y 7 1) := by
  unfold CallsX
  k_fill
  w_top off
  intro w mean mg mb dp un gd cn cs a' ccd cl outer A₀ base h₀ L fm news s Q E B F X N T hk hd hu hret hexc
  cell_step
  k_steps
  all_goals first
    | exact hexc (by assumption) _ _ _ _ _ _ (by assumption) (by assumption) (by assumption)
    | ((rename (HasV _ _ _ ∧ _) => hv)
       refine ret_RT hret (by assumption) (by assumption) (fun p h => by repeat (first | exact h | refine List.mem_cons_of_mem _ ?_)) ⟨hv.1, ?_⟩
       rw [← hv.2]; assumption)
set_option maxRecDepth 100000 in
set_option maxHeartbeats 8000000 in
theorem e_rosh_hashanah (y : Int) (ty : Tok) (h1 : 1 ≤ y) (h2 : y ≤ 6000) : CallsX 10 144 [.int y ty, .bool true] (RT (fun a b c => HasV y 7 1 ∧ IsDate (PV y 7 1 - 1) a b c)) (¬ HasV y 7 1) := by
  unfold CallsX
  k_fill
  w_top off
  intro w mean mg mb dp un gd cn cs a' ccd cl outer A₀ base h₀ L fm news s Q E B F X N T hk hd hu hret hexc
  cell_step
  k_steps
  all_goals first
    | exact hexc (by assumption) _ _ _ _ _ _ (by assumption) (by assumption) (by assumption)
    | ((rename (HasV _ _ _ ∧ _) => hv)
       refine ret_RT hret (by assumption) (by assumption) (fun p h => by repeat (first | exact h | refine List.mem_cons_of_mem _ ?_)) ⟨hv.1, ?_⟩
       rw [← hv.2]; assumption)
set_option maxRecDepth 100000 in
set_option maxHeartbeats 8000000 in
theorem f_yom_kippur (y : Int) (ty : Tok) (h1 : 1 ≤ y) (h2 : y ≤ 6000) : CallsX 10 152 [.int y ty] (RT (fun a b c => HasV y 7 10 ∧ IsDate (PV y 7 10) a b c)) (¬ HasV y 7 10) := by
  unfold CallsX
  k_fill
  w_top off
  intro w mean mg mb dp un gd cn cs a' ccd cl outer A₀ base h₀ L fm news s Q E B F X N T hk hd hu hret hexc
  cell_step
  k_steps
  all_goals first
    | exact hexc (by assumption) _ _ _ _ _ _ (by assumption) (by assumption) (by assumption)
    | ((rename (HasV _ _ _ ∧ _) => hv)
       refine ret_RT hret (by assumption) (by assumption) (fun p h => by repeat (first | exact h | refine List.mem_cons_of_mem _ ?_)) ⟨hv.1, ?_⟩
       rw [← hv.2]; assumption)
set_option maxRecDepth 100000 in
set_option maxHeartbeats 8000000 in
theorem e_yom_kippur (y : Int) (ty : Tok) (h1 : 1 ≤ y) (h2 : y ≤ 6000) : CallsX 10 152 [.int y ty, .bool true] (RT (fun a b c => HasV y 7 10 ∧ IsDate (PV y 7 10 - 1) a b c)) (¬ HasV y 7 10) := by
  unfold CallsX
  k_fill
  w_top off
  intro w mean mg mb dp un gd cn cs a' ccd cl outer A₀ base h₀ L fm news s Q E B F X N T hk hd hu hret hexc
  cell_step
  k_steps
  all_goals first
    | exact hexc (by assumption) _ _ _ _ _ _ (by assumption) (by assumption) (by assumption)
    | ((rename (HasV _ _ _ ∧ _) => hv)
       refine ret_RT hret (by assumption) (by assumption) (fun p h => by repeat (first | exact h | refine List.mem_cons_of_mem _ ?_)) ⟨hv.1, ?_⟩
       rw [← hv.2]; assumption)
set_option maxRecDepth 100000 in
set_option maxHeartbeats 8000000 in
theorem f_passover (y : Int) (ty : Tok) (h1 : 1 ≤ y) (h2 : y ≤ 6000) : CallsX 10 160 [.int y ty] (RT (fun a b c => HasV y 1 15 ∧ IsDate (PV y 1 15) a b c)) (¬ HasV y 1 15) := by
  unfold CallsX
  k_fill
  w_top off
  intro w mean mg mb dp un gd cn cs a' ccd cl outer A₀ base h₀ L fm news s Q E B F X N T hk hd hu hret hexc
  cell_step
  k_steps
  all_goals first
    | exact hexc (by assumption) _ _ _ _ _ _ (by assumption) (by assumption) (by assumption)
    | ((rename (HasV _ _ _ ∧ _) => hv)
       refine ret_RT hret (by assumption) (by assumption) (fun p h => by repeat (first | exact h | refine List.mem_cons_of_mem _ ?_)) ⟨hv.1, ?_⟩
       rw [← hv.2]; assumption)
set_option maxRecDepth 100000 in
set_option maxHeartbeats 8000000 in
theorem e_passover (y : Int) (ty : Tok) (h1 : 1 ≤ y) (h2 : y ≤ 6000) : CallsX 10 160 [.int y ty, .bool true] (RT (fun a b c => HasV y 1 15 ∧ IsDate (PV y 1 15 - 1) a b c)) (¬ HasV y 1 15) := by
  unfold CallsX
  k_fill
  w_top off
  intro w mean mg mb dp un gd cn cs a' ccd cl outer A₀ base h₀ L fm news s Q E B F X N T hk hd hu hret hexc
  cell_step
  k_steps
  all_goals first
    | exact hexc (by assumption) _ _ _ _ _ _ (by assumption) (by assumption) (by assumption)
    | ((rename (HasV _ _ _ ∧ _) => hv)
       refine ret_RT hret (by assumption) (by assumption) (fun p h => by repeat (first | exact h | refine List.mem_cons_of_mem _ ?_)) ⟨hv.1, ?_⟩
       rw [← hv.2]; assumption)
set_option maxRecDepth 100000 in
set_option maxHeartbeats 8000000 in
theorem f_shavuot (y : Int) (ty : Tok) (h1 : 1 ≤ y) (h2 : y ≤ 6000) : CallsX 10 168 [.int y ty] (RT (fun a b c => HasV y 3 6 ∧ IsDate (PV y 3 6) a b c)) (¬ HasV y 3 6) := by
  unfold CallsX
  k_fill
  w_top off
  intro w mean mg mb dp un gd cn cs a' ccd cl outer A₀ base h₀ L fm news s Q E B F X N T hk hd hu hret hexc
  cell_step
  k_steps
  all_goals first
    | exact hexc (by assumption) _ _ _ _ _ _ (by assumption) (by assumption) (by assumption)
    | ((rename (HasV _ _ _ ∧ _) => hv)
       refine ret_RT hret (by assumption) (by assumption) (fun p h => by repeat (first | exact h | refine List.mem_cons_of_mem _ ?_)) ⟨hv.1, ?_⟩
       rw [← hv.2]; assumption)
set_option maxRecDepth 100000 in
set_option maxHeartbeats 8000000 in
theorem e_shavuot (y : Int) (ty : Tok) (h1 : 1 ≤ y) (h2 : y ≤ 6000) : CallsX 10 168 [.int y ty, .bool true] (RT (fun a b c => HasV y 3 6 ∧ IsDate (PV y 3 6 - 1) a b c)) (¬ HasV y 3 6) := by
  unfold CallsX
  k_fill
  w_top off
  intro w mean mg mb dp un gd cn cs a' ccd cl outer A₀ base h₀ L fm news s Q E B F X N T hk hd hu hret hexc
  cell_step
  k_steps
  all_goals first
    | exact hexc (by assumption) _ _ _ _ _ _ (by assumption) (by assumption) (by assumption)
    | ((rename (HasV _ _ _ ∧ _) => hv)
       refine ret_RT hret (by assumption) (by assumption) (fun p h => by repeat (first | exact h | refine List.mem_cons_of_mem _ ?_)) ⟨hv.1, ?_⟩
       rw [← hv.2]; assumption)
set_option maxRecDepth 100000 in
set_option maxHeartbeats 8000000 in
theorem f_sukkot (y : Int) (ty : Tok) (h1 : 1 ≤ y) (h2 : y ≤ 6000) : CallsX 10 176 [.int y ty] (RT (fun a b c => HasV y 7 15 ∧ IsDate (PV y 7 15) a b c)) (¬ HasV y 7 15) := by
  unfold CallsX
  k_fill
  w_top off
  intro w mean mg mb dp un gd cn cs a' ccd cl outer A₀ base h₀ L fm news s Q E B F X N T hk hd hu hret hexc
  cell_step
  k_steps
  all_goals first
    | exact hexc (by assumption) _ _ _ _ _ _ (by assumption) (by assumption) (by assumption)
    | ((rename (HasV _ _ _ ∧ _) => hv)
       refine ret_RT hret (by assumption) (by assumption) (fun p h => by repeat (first | exact h | refine List.mem_cons_of_mem _ ?_)) ⟨hv.1, ?_⟩
       rw [← hv.2]; assumption)
set_option maxRecDepth 100000 in
set_option maxHeartbeats 8000000 in
theorem e_sukkot (y : Int) (ty : Tok) (h1 : 1 ≤ y) (h2 : y ≤ 6000) : CallsX 10 176 [.int y ty, .bool true] (RT (fun a b c => HasV y 7 15 ∧ IsDate (PV y 7 15 - 1) a b c)) (¬ HasV y 7 15) := by
  unfold CallsX
  k_fill
  w_top off
  intro w mean mg mb dp un gd cn cs a' ccd cl outer A₀ base h₀ L fm news s Q E B F X N T hk hd hu hret hexc
  cell_step
  k_steps
  all_goals first
    | exact hexc (by assumption) _ _ _ _ _ _ (by assumption) (by assumption) (by assumption)
    | ((rename (HasV _ _ _ ∧ _) => hv)
       refine ret_RT hret (by assumption) (by assumption) (fun p h => by repeat (first | exact h | refine List.mem_cons_of_mem _ ?_)) ⟨hv.1, ?_⟩
       rw [← hv.2]; assumption)
set_option maxRecDepth 100000 in
set_option maxHeartbeats 8000000 in
theorem f_shemini_azeret (y : Int) (ty : Tok) (h1 : 1 ≤ y) (h2 : y ≤ 6000) : CallsX 10 184 [.int y ty] (RT (fun a b c => HasV y 7 22 ∧ IsDate (PV y 7 22) a b c)) (¬ HasV y 7 22) := by
  unfold CallsX
  k_fill
  w_top off
  intro w mean mg mb dp un gd cn cs a' ccd cl outer A₀ base h₀ L fm news s Q E B F X N T hk hd hu hret hexc
  cell_step
  k_steps
  all_goals first
    | exact hexc (by assumption) _ _ _ _ _ _ (by assumption) (by assumption) (by assumption)
    | ((rename (HasV _ _ _ ∧ _) => hv)
       refine ret_RT hret (by assumption) (by assumption) (fun p h => by repeat (first | exact h | refine List.mem_cons_of_mem _ ?_)) ⟨hv.1, ?_⟩
       rw [← hv.2]; assumption)
set_option maxRecDepth 100000 in
set_option maxHeartbeats 8000000 in
theorem e_shemini_azeret (y : Int) (ty : Tok) (h1 : 1 ≤ y) (h2 : y ≤ 6000) : CallsX 10 184 [.int y ty, .bool true] (RT (fun a b c => HasV y 7 22 ∧ IsDate (PV y 7 22 - 1) a b c)) (¬ HasV y 7 22) := by
  unfold CallsX
  k_fill
  w_top off
  intro w mean mg mb dp un gd cn cs a' ccd cl outer A₀ base h₀ L fm news s Q E B F X N T hk hd hu hret hexc
  cell_step
  k_steps
  all_goals first
    | exact hexc (by assumption) _ _ _ _ _ _ (by assumption) (by assumption) (by assumption)
    | ((rename (HasV _ _ _ ∧ _) => hv)
       refine ret_RT hret (by assumption) (by assumption) (fun p h => by repeat (first | exact h | refine List.mem_cons_of_mem _ ?_)) ⟨hv.1, ?_⟩
       rw [← hv.2]; assumption)
set_option maxRecDepth 100000 in
set_option maxHeartbeats 8000000 in
theorem f_lag_baomer (y : Int) (ty : Tok) (h1 : 1 ≤ y) (h2 : y ≤ 6000) : CallsX 10 192 [.int y ty] (RT (fun a b c => HasV y 2 18 ∧ IsDate (PV y 2 18) a b c)) (¬ HasV y 2 18) := by
  unfold CallsX
  k_fill
  w_top off
  intro w mean mg mb dp un gd cn cs a' ccd cl outer A₀ base h₀ L fm news s Q E B F X N T hk hd hu hret hexc
  cell_step
  k_steps
  all_goals first
    | exact hexc (by assumption) _ _ _ _ _ _ (by assumption) (by assumption) (by assumption)
    | ((rename (HasV _ _ _ ∧ _) => hv)
       refine ret_RT hret (by assumption) (by assumption) (fun p h => by repeat (first | exact h | refine List.mem_cons_of_mem _ ?_)) ⟨hv.1, ?_⟩
       rw [← hv.2]; assumption)
set_option maxRecDepth 100000 in
set_option maxHeartbeats 8000000 in
theorem e_lag_baomer (y : Int) (ty : Tok) (h1 : 1 ≤ y) (h2 : y ≤ 6000) : CallsX 10 192 [.int y ty, .bool true] (RT (fun a b c => HasV y 2 18 ∧ IsDate (PV y 2 18 - 1) a b c)) (¬ HasV y 2 18) := by
  unfold CallsX
  k_fill
  w_top off
  intro w mean mg mb dp un gd cn cs a' ccd cl outer A₀ base h₀ L fm news s Q E B F X N T hk hd hu hret hexc
  cell_step
  k_steps
  all_goals first
    | exact hexc (by assumption) _ _ _ _ _ _ (by assumption) (by assumption) (by assumption)
    | ((rename (HasV _ _ _ ∧ _) => hv)
       refine ret_RT hret (by assumption) (by assumption) (fun p h => by repeat (first | exact h | refine List.mem_cons_of_mem _ ?_)) ⟨hv.1, ?_⟩
       rw [← hv.2]; assumption)
set_option maxRecDepth 100000 in
set_option maxHeartbeats 8000000 in
theorem f_tu_beshvat (y : Int) (ty : Tok) (h1 : 1 ≤ y) (h2 : y ≤ 6000) : CallsX 10 200 [.int y ty] (RT (fun a b c => HasV y 11 15 ∧ IsDate (PV y 11 15) a b c)) (¬ HasV y 11 15) := by
  unfold CallsX
  k_fill
  w_top off
  intro w mean mg mb dp un gd cn cs a' ccd cl outer A₀ base h₀ L fm news s Q E B F X N T hk hd hu hret hexc
  cell_step
  k_steps
  all_goals first
    | exact hexc (by assumption) _ _ _ _ _ _ (by assumption) (by assumption) (by assumption)
    | ((rename (HasV _ _ _ ∧ _) => hv)
       refine ret_RT hret (by assumption) (by assumption) (fun p h => by repeat (first | exact h | refine List.mem_cons_of_mem _ ?_)) ⟨hv.1, ?_⟩
       rw [← hv.2]; assumption)
set_option maxRecDepth 100000 in
set_option maxHeartbeats 8000000 in
theorem e_tu_beshvat (y : Int) (ty : Tok) (h1 : 1 ≤ y) (h2 : y ≤ 6000) : CallsX 10 200 [.int y ty, .bool true] (RT (fun a b c => HasV y 11 15 ∧ IsDate (PV y 11 15 - 1) a b c)) (¬ HasV y 11 15) := by
  unfold CallsX
  k_fill
  w_top off
  intro w mean mg mb dp un gd cn cs a' ccd cl outer A₀ base h₀ L fm news s Q E B F X N T hk hd hu hret hexc
  cell_step
  k_steps
  all_goals first
    | exact hexc (by assumption) _ _ _ _ _ _ (by assumption) (by assumption) (by assumption)
    | ((rename (HasV _ _ _ ∧ _) => hv)
       refine ret_RT hret (by assumption) (by assumption) (fun p h => by repeat (first | exact h | refine List.mem_cons_of_mem _ ?_)) ⟨hv.1, ?_⟩
       rw [← hv.2]; assumption)
end
section
local macro_rules | `(tactic| walk_at "no such key") => `(tactic| skip)
local macro_rules | `(tactic| walk_at "leaving ref") => `(tactic| regloopunroll_open)
local macro_rules | `(tactic| walk_at "call ref") => `(tactic| first | (ktr_call 35 (c_jwday _ _)) | (ktr_call 64 (c_leapH _ _)) | (ktr_call 57 (c_fromJd _ _)) | (ktr_call 120 (k_gregYear _ _ _ _ _ _ (by omega) (by decide) (by decide) (by decide) (by first | exact .inl (by decide) | exact .inr ⟨rfl, rfl, by assumption, by omega, by omega⟩))))
open Classical in
noncomputable def PM (y : Int) : Int := if LeapH (y + 3760) then 13 else 12
theorem pm_yes {y : Int} (h : LeapH (y + 3760)) : PM y = 13 := if_pos h
theorem pm_no {y : Int} (h : ¬ LeapH (y + 3760)) : PM y = 12 := if_neg h
def TB (v : Int) : Int := if v % 7 = 5 then v + 1 else v
set_option maxRecDepth 100000 in
set_option maxHeartbeats 8000000 in
theorem f_purim (y : Int) (ty : Tok) (h1 : 1 ≤ y) (h2 : y ≤ 6000) : CallsX 10 136 [.int y ty] (RT (fun a b c => HasV y (PM y) 14 ∧ IsDate (PV y (PM y) 14) a b c)) (¬ HasV y (PM y) 14) := by
  unfold CallsX
  k_fill
  w_top off
  intro w mean mg mb dp un gd cn cs a' ccd cl outer A₀ base h₀ L fm news s Q E B F X N T hk hd hu hret hexc
  cell_step
  k_steps
  all_goals first | rw [pm_yes (by assumption)] at hret hexc | rw [pm_no (by assumption)] at hret hexc
  all_goals first
    | exact hexc (by assumption) _ _ _ _ _ _ (by assumption) (by assumption) (by assumption)
    | ((rename (HasV _ _ _ ∧ _) => hv)
       refine ret_RT hret (by assumption) (by assumption) (fun p h => by repeat (first | exact h | refine List.mem_cons_of_mem _ ?_)) ⟨hv.1, ?_⟩
       rw [← hv.2]; assumption)
set_option maxRecDepth 100000 in
set_option maxHeartbeats 8000000 in
theorem e_purim (y : Int) (ty : Tok) (h1 : 1 ≤ y) (h2 : y ≤ 6000) : CallsX 10 136 [.int y ty, .bool true] (RT (fun a b c => HasV y (PM y) 14 ∧ IsDate (PV y (PM y) 14 - 1) a b c)) (¬ HasV y (PM y) 14) := by
  unfold CallsX
  k_fill
  w_top off
  intro w mean mg mb dp un gd cn cs a' ccd cl outer A₀ base h₀ L fm news s Q E B F X N T hk hd hu hret hexc
  cell_step
  k_steps
  all_goals first | rw [pm_yes (by assumption)] at hret hexc | rw [pm_no (by assumption)] at hret hexc
  all_goals first
    | exact hexc (by assumption) _ _ _ _ _ _ (by assumption) (by assumption) (by assumption)
    | ((rename (HasV _ _ _ ∧ _) => hv)
       refine ret_RT hret (by assumption) (by assumption) (fun p h => by repeat (first | exact h | refine List.mem_cons_of_mem _ ?_)) ⟨hv.1, ?_⟩
       rw [← hv.2]; assumption)
set_option maxRecDepth 100000 in
set_option maxHeartbeats 8000000 in
theorem f_tisha (y : Int) (ty : Tok) (h1 : 1 ≤ y) (h2 : y ≤ 6000) : CallsX 10 208 [.int y ty] (RT (fun a b c => HasV y 5 9 ∧ IsDate (TB (PV y 5 9)) a b c)) (¬ HasV y 5 9) := by
  unfold CallsX
  k_fill
  w_top off
  intro w mean mg mb dp un gd cn cs a' ccd cl outer A₀ base h₀ L fm news s Q E B F X N T hk hd hu hret hexc
  cell_step
  k_steps
  all_goals first
    | exact hexc (by assumption) _ _ _ _ _ _ (by assumption) (by assumption) (by assumption)
    | ((rename (HasV _ _ _ ∧ _) => hv)
       refine ret_RT hret (by assumption) (by assumption) (fun p h => by repeat (first | exact h | refine List.mem_cons_of_mem _ ?_)) ⟨hv.1, ?_⟩
       rw [← hv.2]
       unfold TB
       first | (rw [if_pos (by omega)]; assumption) | (rw [if_neg (by omega)]; assumption))
set_option maxRecDepth 100000 in
set_option maxHeartbeats 8000000 in
theorem e_tisha (y : Int) (ty : Tok) (h1 : 1 ≤ y) (h2 : y ≤ 6000) : CallsX 10 208 [.int y ty, .bool true] (RT (fun a b c => HasV y 5 9 ∧ IsDate (TB (PV y 5 9) - 1) a b c)) (¬ HasV y 5 9) := by
  unfold CallsX
  k_fill
  w_top off
  intro w mean mg mb dp un gd cn cs a' ccd cl outer A₀ base h₀ L fm news s Q E B F X N T hk hd hu hret hexc
  cell_step
  k_steps
  all_goals first
    | exact hexc (by assumption) _ _ _ _ _ _ (by assumption) (by assumption) (by assumption)
    | ((rename (HasV _ _ _ ∧ _) => hv)
       refine ret_RT hret (by assumption) (by assumption) (fun p h => by repeat (first | exact h | refine List.mem_cons_of_mem _ ?_)) ⟨hv.1, ?_⟩
       rw [← hv.2]
       unfold TB
       first | (rw [if_pos (by omega)]; assumption) | (rw [if_neg (by omega)]; assumption))
end
section
local macro_rules | `(tactic| walk_at "no such key") => `(tactic| skip)
def FHas (y k : Int) : Prop := if k = 0 then HasV y 9 25 else if k = 1 then HasV y (PM y) 14 else if k = 2 then HasV y 7 1 else if k = 3 then HasV y 7 10 else if k = 4 then HasV y 1 15 else if k = 5 then HasV y 3 6 else if k = 6 then HasV y 7 15 else if k = 7 then HasV y 7 22 else if k = 8 then HasV y 2 18 else if k = 9 then HasV y 11 15 else HasV y 5 9
noncomputable def FVal (y k : Int) : Int := if k = 0 then PV y 9 25 else if k = 1 then PV y (PM y) 14 else if k = 2 then PV y 7 1 else if k = 3 then PV y 7 10 else if k = 4 then PV y 1 15 else if k = 5 then PV y 3 6 else if k = 6 then PV y 7 15 else if k = 7 then PV y 7 22 else if k = 8 then PV y 2 18 else if k = 9 then PV y 11 15 else TB (PV y 5 9)
theorem fh_0 {y k : Int} (h : k = 0) : FHas y k = HasV y 9 25 := by subst h; rfl
theorem fv_0 {y k : Int} (h : k = 0) : FVal y k = PV y 9 25 := by subst h; rfl
theorem fh_1 {y k : Int} (h : k = 1) : FHas y k = HasV y (PM y) 14 := by subst h; rfl
theorem fv_1 {y k : Int} (h : k = 1) : FVal y k = PV y (PM y) 14 := by subst h; rfl
theorem fh_2 {y k : Int} (h : k = 2) : FHas y k = HasV y 7 1 := by subst h; rfl
theorem fv_2 {y k : Int} (h : k = 2) : FVal y k = PV y 7 1 := by subst h; rfl
theorem fh_3 {y k : Int} (h : k = 3) : FHas y k = HasV y 7 10 := by subst h; rfl
theorem fv_3 {y k : Int} (h : k = 3) : FVal y k = PV y 7 10 := by subst h; rfl
theorem fh_4 {y k : Int} (h : k = 4) : FHas y k = HasV y 1 15 := by subst h; rfl
theorem fv_4 {y k : Int} (h : k = 4) : FVal y k = PV y 1 15 := by subst h; rfl
theorem fh_5 {y k : Int} (h : k = 5) : FHas y k = HasV y 3 6 := by subst h; rfl
theorem fv_5 {y k : Int} (h : k = 5) : FVal y k = PV y 3 6 := by subst h; rfl
theorem fh_6 {y k : Int} (h : k = 6) : FHas y k = HasV y 7 15 := by subst h; rfl
theorem fv_6 {y k : Int} (h : k = 6) : FVal y k = PV y 7 15 := by subst h; rfl
theorem fh_7 {y k : Int} (h : k = 7) : FHas y k = HasV y 7 22 := by subst h; rfl
theorem fv_7 {y k : Int} (h : k = 7) : FVal y k = PV y 7 22 := by subst h; rfl
theorem fh_8 {y k : Int} (h : k = 8) : FHas y k = HasV y 2 18 := by subst h; rfl
theorem fv_8 {y k : Int} (h : k = 8) : FVal y k = PV y 2 18 := by subst h; rfl
theorem fh_9 {y k : Int} (h : k = 9) : FHas y k = HasV y 11 15 := by subst h; rfl
theorem fv_9 {y k : Int} (h : k = 9) : FVal y k = PV y 11 15 := by subst h; rfl
theorem fh_10 {y k : Int} (h : k = 10) : FHas y k = HasV y 5 9 := by subst h; rfl
theorem fv_10 {y k : Int} (h : k = 10) : FVal y k = TB (PV y 5 9) := by subst h; rfl
theorem by11 {k : Int} (h0 : 0 ≤ k) (h1 : k ≤ 10) : k = 0 ∨ k = 1 ∨ k = 2 ∨ k = 3 ∨ k = 4 ∨ k = 5 ∨ k = 6 ∨ k = 7 ∨ k = 8 ∨ k = 9 ∨ k = 10 := by omega
theorem item11 {prog : Program} {w : World} {A : Around} {E : Value → Shared → Prop} {s : Shared} {value slice : PySem.Expr} {t : Addr} {k : Int} {u : Tok} {v0 v1 v2 v3 v4 v5 v6 v7 v8 v9 v10 : Value} {Q : Value → Shared → Prop} (ht : IsTup s.heap t [v0, v1, v2, v3, v4, v5, v6, v7, v8, v9, v10].toArray) (h0 : 0 ≤ k) (h1 : k ≤ 10) (c0 : k = 0 → Q v0 s) (c1 : k = 1 → Q v1 s) (c2 : k = 2 → Q v2 s) (c3 : k = 3 → Q v3 s) (c4 : k = 4 → Q v4 s) (c5 : k = 5 → Q v5 s) (c6 : k = 6 → Q v6 s) (c7 : k = 7 → Q v7 s) (c8 : k = 8 → Q v8 s) (c9 : k = 9 → Q v9 s) (c10 : k = 10 → Q v10 s)
    (hs : subscripted slice false (.ref t) (.int k u) = operate [.ref t, .int k u] (getItem (.ref t) (.int k u)) := by with_unfolding_all rfl) :
    wpAny (model prog w) A (subscriptTail value slice (.ref t) (.int k u)) Q E s := by
  rcases by11 h0 h1 with h | h | h | h | h | h | h | h | h | h | h
  · exact item_tupleT (l := [v0, v1, v2, v3, v4, v5, v6, v7, v8, v9, v10]) (j := 0) ht (by omega) (by omega) (by rw [h]; rfl) rfl (c0 h) hs
  · exact item_tupleT (l := [v0, v1, v2, v3, v4, v5, v6, v7, v8, v9, v10]) (j := 1) ht (by omega) (by omega) (by rw [h]; rfl) rfl (c1 h) hs
  · exact item_tupleT (l := [v0, v1, v2, v3, v4, v5, v6, v7, v8, v9, v10]) (j := 2) ht (by omega) (by omega) (by rw [h]; rfl) rfl (c2 h) hs
  · exact item_tupleT (l := [v0, v1, v2, v3, v4, v5, v6, v7, v8, v9, v10]) (j := 3) ht (by omega) (by omega) (by rw [h]; rfl) rfl (c3 h) hs
  · exact item_tupleT (l := [v0, v1, v2, v3, v4, v5, v6, v7, v8, v9, v10]) (j := 4) ht (by omega) (by omega) (by rw [h]; rfl) rfl (c4 h) hs
  · exact item_tupleT (l := [v0, v1, v2, v3, v4, v5, v6, v7, v8, v9, v10]) (j := 5) ht (by omega) (by omega) (by rw [h]; rfl) rfl (c5 h) hs
  · exact item_tupleT (l := [v0, v1, v2, v3, v4, v5, v6, v7, v8, v9, v10]) (j := 6) ht (by omega) (by omega) (by rw [h]; rfl) rfl (c6 h) hs
  · exact item_tupleT (l := [v0, v1, v2, v3, v4, v5, v6, v7, v8, v9, v10]) (j := 7) ht (by omega) (by omega) (by rw [h]; rfl) rfl (c7 h) hs
  · exact item_tupleT (l := [v0, v1, v2, v3, v4, v5, v6, v7, v8, v9, v10]) (j := 8) ht (by omega) (by omega) (by rw [h]; rfl) rfl (c8 h) hs
  · exact item_tupleT (l := [v0, v1, v2, v3, v4, v5, v6, v7, v8, v9, v10]) (j := 9) ht (by omega) (by omega) (by rw [h]; rfl) rfl (c9 h) hs
  · exact item_tupleT (l := [v0, v1, v2, v3, v4, v5, v6, v7, v8, v9, v10]) (j := 10) ht (by omega) (by omega) (by rw [h]; rfl) rfl (c10 h) hs
theorem due_none {y k : Int} {H : Prop} (e : FHas y k = H) (h : ¬ H) : ¬ FHas y k := by rw [e]; exact h
theorem due_some {y k v : Int} {H : Prop} (e : FHas y k = H) (f : FVal y k = v) (h : H) : FHas y k ∧ v = FVal y k := by rw [e]; exact ⟨h, f.symm⟩
theorem due_some' {y k v x : Int} {H : Prop} (e : FHas y k = H) (f : FVal y k = x) (h : H) (g : v = x) : FHas y k ∧ v = FVal y k := by rw [e, f]; exact ⟨h, g⟩
theorem tb_up {v : Int} (h : v % 7 = 5) : v + 1 = TB v := by unfold TB; rw [if_pos h]
theorem tb_on {v : Int} (h : ¬ v % 7 = 5) : v = TB v := by unfold TB; rw [if_neg h]
theorem meet_pm {M : Model} {A : Around} {c : Sem Value} {s : Shared} {Q E : Value → Shared → Prop} {h₀ : Heap} {L : Addr} {ns : List Str} {y : Int} {ty : Tok} {a b d e : Option Value} {news : List (Addr × Obj)}
    (F : Fr h₀ L s.heap (mapOf ns [a, some (.int y ty), b, d, e])) (N : News h₀ L s.heap news)
    (h : wpAny M A c (MeetEnd h₀ L (mapOf ns [a, some (.int y ty), b, d, e]) news (fun n => n = PM y) s) E s)
    (k : ∀ (t : Tok) (h' : Heap) (tk : Nat), Fr h₀ L h' (mapOf ns [a, some (.int y ty), b, d, e]) → News h₀ L h' news → Q (.int (PM y) t) { s with heap := h', toks := tk }) : wpAny M A c Q E s :=
  meet_any _ F N h (fun n t h' tk e F' N' => by rw [e]; exact k t h' tk F' N')
local macro_rules | `(tactic| walk_at "eval IfExp Call") => `(tactic| ((fail_if_success (with_reducible show wpAny _ _ _ (MeetEnd _ _ _ _ _ _) _ _)); k_here; k_dflt (refine' meet_pm (by k_asm) (by k_asm) ?_ ?k; (case' k => (intros; regstrif_slice)))))
local macro_rules | `(tactic| walk_at "subscriptTail") => `(tactic| (k_here; k_dflt (refine' item11 (News.isTup (by k_asm) (by k_mem)) (by assumption) (by assumption) ?_ ?_ ?_ ?_ ?_ ?_ ?_ ?_ ?_ ?_ ?_ <;> intros)))
local macro_rules | `(tactic| walk_at "call ref") => `(tactic| first | (((with_reducible show wpAny _ _ (PySem.call (Value.ref 269) _) _ _ _); (rename News _ _ _ (_ :: _ :: _ :: _ :: _ :: _ :: _ :: _ :: _ :: _ :: _ :: _ :: _) => N0); have N1 := news_sub N0 (fun _ hp => .tail _ (.tail _ (.tail _ (.tail _ (.tail _ (.tail _ (.tail _ (.tail _ (.tail _ (.tail _ (.tail _ (.tail _ hp)))))))))))); clear N0; ktr_call 269 (k_within _ _ _ _ _ _))) | (ktr_call 243 (c_thirB _ _)))
set_option maxRecDepth 100000 in
set_option maxHeartbeats 8000000 in
theorem due_all (k y : Int) (t1 t2 : Tok) (h0 : 0 ≤ k) (h1 : k ≤ 10) : CallsTo 6 276 [.int k t1, .int y t2] (RO (fun v => FHas y k ∧ v = FVal y k) (¬ FHas y k)) := by
  unfold CallsTo
  k_fill
  w_top off
  intro w mean mg mb dp un gd cn cs a' ccd cl outer A₀ base h₀ L fm news s Q E B F X N T hk hd hu hret
  cell_end ["which", "year"] ["month", "day", "jd"] ["_law_thirteen", "_law_within"]
  k_steps
  all_goals first
    | exact meet_end (by assumption) (by assumption) (by regstrif_gather) (by first | exact (pm_yes (thirB_iff.mp (by assumption))).symm | exact (pm_no (notLeap (by assumption))).symm)
    | (refine ret_sub hret [] (RO.none ?_) (by assumption) (by assumption) (by regstrif_gather)
       first
       | exact due_none (fh_0 (by assumption)) (by assumption)
       | exact due_none (fh_1 (by assumption)) (by assumption)
       | exact due_none (fh_2 (by assumption)) (by assumption)
       | exact due_none (fh_3 (by assumption)) (by assumption)
       | exact due_none (fh_4 (by assumption)) (by assumption)
       | exact due_none (fh_5 (by assumption)) (by assumption)
       | exact due_none (fh_6 (by assumption)) (by assumption)
       | exact due_none (fh_7 (by assumption)) (by assumption)
       | exact due_none (fh_8 (by assumption)) (by assumption)
       | exact due_none (fh_9 (by assumption)) (by assumption)
       | exact due_none (fh_10 (by assumption)) (by assumption))
    | (refine ret_sub hret [] (RO.some ?_) (by assumption) (by assumption) (by regstrif_gather)
       first
       | exact due_some (fh_0 (by assumption)) (fv_0 (by assumption)) (by assumption)
       | exact due_some (fh_1 (by assumption)) (fv_1 (by assumption)) (by assumption)
       | exact due_some (fh_2 (by assumption)) (fv_2 (by assumption)) (by assumption)
       | exact due_some (fh_3 (by assumption)) (fv_3 (by assumption)) (by assumption)
       | exact due_some (fh_4 (by assumption)) (fv_4 (by assumption)) (by assumption)
       | exact due_some (fh_5 (by assumption)) (fv_5 (by assumption)) (by assumption)
       | exact due_some (fh_6 (by assumption)) (fv_6 (by assumption)) (by assumption)
       | exact due_some (fh_7 (by assumption)) (fv_7 (by assumption)) (by assumption)
       | exact due_some (fh_8 (by assumption)) (fv_8 (by assumption)) (by assumption)
       | exact due_some (fh_9 (by assumption)) (fv_9 (by assumption)) (by assumption)
       | exact due_some' (fh_10 (by assumption)) (fv_10 (by assumption)) (by assumption) (tb_up (by omega))
       | exact due_some' (fh_10 (by assumption)) (fv_10 (by assumption)) (by assumption) (tb_on (by omega)))
end
section
local macro_rules | `(tactic| walk_at "leaving ref") => `(tactic| regloopunroll_open)
theorem fx {y k v a b c : Int} {H : Prop} (e : FHas y k = H) (f : FVal y k = v) (h : H ∧ IsDate v a b c) : FHas y k ∧ IsDate (FVal y k) a b c := by rw [e, f]; exact h
theorem ex {y k v a b c : Int} {H : Prop} (e : FHas y k = H) (f : FVal y k = v) (h : H ∧ IsDate (v - 1) a b c) : FHas y k ∧ IsDate (FVal y k - 1) a b c := by rw [e, f]; exact h
section
local macro_rules | `(tactic| walk_at "call ref") => `(tactic| first | (ktr_call 208 (f_tisha _ _ (by assumption) (by assumption))) | (ktr_call 200 (f_tu_beshvat _ _ (by assumption) (by assumption))) | (ktr_call 192 (f_lag_baomer _ _ (by assumption) (by assumption))) | (ktr_call 184 (f_shemini_azeret _ _ (by assumption) (by assumption))) | (ktr_call 176 (f_sukkot _ _ (by assumption) (by assumption))) | (ktr_call 168 (f_shavuot _ _ (by assumption) (by assumption))) | (ktr_call 160 (f_passover _ _ (by assumption) (by assumption))) | (ktr_call 152 (f_yom_kippur _ _ (by assumption) (by assumption))) | (ktr_call 144 (f_rosh_hashanah _ _ (by assumption) (by assumption))) | (ktr_call 136 (f_purim _ _ (by assumption) (by assumption))) | (ktr_call 128 (f_hanukkah _ _ (by assumption) (by assumption))))
set_option maxRecDepth 100000 in
set_option maxHeartbeats 8000000 in
theorem plain_all (k y : Int) (t1 t2 : Tok) (h0 : 0 ≤ k) (h9 : k ≤ 10) (h1 : 1 ≤ y) (h2 : y ≤ 6000) : CallsX 11 283 [.int k t1, .int y t2] (RT (fun a b c => FHas y k ∧ IsDate (FVal y k) a b c)) (¬ FHas y k) := by
  unfold CallsX
  k_fill
  w_top off
  intro w mean mg mb dp un gd cn cs a' ccd cl outer A₀ base h₀ L fm news s Q E B F X N T hk hd hu hret hexc
  cell_end ["which", "year"] [] ["hanukkah", "purim", "rosh_hashanah", "yom_kippur", "passover", "shavuot", "sukkot", "shemini_azeret", "lag_baomer", "tu_beshvat", "tisha_bav"]
  k_steps
  all_goals first
    | (refine hexc ?_ _ _ _ _ _ _ (by assumption) (by assumption) (by assumption)
       first
       | with_reducible exact due_none (fh_0 (by omega)) (by assumption)
       | with_reducible exact due_none (fh_1 (by omega)) (by assumption)
       | with_reducible exact due_none (fh_2 (by omega)) (by assumption)
       | with_reducible exact due_none (fh_3 (by omega)) (by assumption)
       | with_reducible exact due_none (fh_4 (by omega)) (by assumption)
       | with_reducible exact due_none (fh_5 (by omega)) (by assumption)
       | with_reducible exact due_none (fh_6 (by omega)) (by assumption)
       | with_reducible exact due_none (fh_7 (by omega)) (by assumption)
       | with_reducible exact due_none (fh_8 (by omega)) (by assumption)
       | with_reducible exact due_none (fh_9 (by omega)) (by assumption)
       | with_reducible exact due_none (fh_10 (by omega)) (by assumption))
    | (refine ret_RT hret (by assumption) (by assumption) (fun p h => by repeat (first | exact h | refine List.mem_cons_of_mem _ ?_)) ?_
       first
       | with_reducible exact fx (fh_0 (by omega)) (fv_0 (by omega)) (by assumption)
       | with_reducible exact fx (fh_1 (by omega)) (fv_1 (by omega)) (by assumption)
       | with_reducible exact fx (fh_2 (by omega)) (fv_2 (by omega)) (by assumption)
       | with_reducible exact fx (fh_3 (by omega)) (fv_3 (by omega)) (by assumption)
       | with_reducible exact fx (fh_4 (by omega)) (fv_4 (by omega)) (by assumption)
       | with_reducible exact fx (fh_5 (by omega)) (fv_5 (by omega)) (by assumption)
       | with_reducible exact fx (fh_6 (by omega)) (fv_6 (by omega)) (by assumption)
       | with_reducible exact fx (fh_7 (by omega)) (fv_7 (by omega)) (by assumption)
       | with_reducible exact fx (fh_8 (by omega)) (fv_8 (by omega)) (by assumption)
       | with_reducible exact fx (fh_9 (by omega)) (fv_9 (by omega)) (by assumption)
       | with_reducible exact fx (fh_10 (by omega)) (fv_10 (by omega)) (by assumption))
end
section
local macro_rules | `(tactic| walk_at "no such key") => `(tactic| skip)
local macro_rules | `(tactic| walk_at "call ref") => `(tactic| first | (ktr_call 208 (e_tisha _ _ (by assumption) (by assumption))) | (ktr_call 200 (e_tu_beshvat _ _ (by assumption) (by assumption))) | (ktr_call 192 (e_lag_baomer _ _ (by assumption) (by assumption))) | (ktr_call 184 (e_shemini_azeret _ _ (by assumption) (by assumption))) | (ktr_call 176 (e_sukkot _ _ (by assumption) (by assumption))) | (ktr_call 168 (e_shavuot _ _ (by assumption) (by assumption))) | (ktr_call 160 (e_passover _ _ (by assumption) (by assumption))) | (ktr_call 152 (e_yom_kippur _ _ (by assumption) (by assumption))) | (ktr_call 144 (e_rosh_hashanah _ _ (by assumption) (by assumption))) | (ktr_call 136 (e_purim _ _ (by assumption) (by assumption))) | (ktr_call 128 (e_hanukkah _ _ (by assumption) (by assumption))))
set_option maxRecDepth 100000 in
set_option maxHeartbeats 8000000 in
theorem ahead_all (k y : Int) (t1 t2 : Tok) (h0 : 0 ≤ k) (h9 : k ≤ 10) (h1 : 1 ≤ y) (h2 : y ≤ 6000) : CallsX 11 290 [.int k t1, .int y t2] (RT (fun a b c => FHas y k ∧ IsDate (FVal y k - 1) a b c)) (¬ FHas y k) := by
  unfold CallsX
  k_fill
  w_top off
  intro w mean mg mb dp un gd cn cs a' ccd cl outer A₀ base h₀ L fm news s Q E B F X N T hk hd hu hret hexc
  cell_end ["which", "year"] [] ["hanukkah", "purim", "rosh_hashanah", "yom_kippur", "passover", "shavuot", "sukkot", "shemini_azeret", "lag_baomer", "tu_beshvat", "tisha_bav"]
  k_steps
  all_goals first
    | (refine hexc ?_ _ _ _ _ _ _ (by assumption) (by assumption) (by assumption)
       first
       | with_reducible exact due_none (fh_0 (by omega)) (by assumption)
       | with_reducible exact due_none (fh_1 (by omega)) (by assumption)
       | with_reducible exact due_none (fh_2 (by omega)) (by assumption)
       | with_reducible exact due_none (fh_3 (by omega)) (by assumption)
       | with_reducible exact due_none (fh_4 (by omega)) (by assumption)
       | with_reducible exact due_none (fh_5 (by omega)) (by assumption)
       | with_reducible exact due_none (fh_6 (by omega)) (by assumption)
       | with_reducible exact due_none (fh_7 (by omega)) (by assumption)
       | with_reducible exact due_none (fh_8 (by omega)) (by assumption)
       | with_reducible exact due_none (fh_9 (by omega)) (by assumption)
       | with_reducible exact due_none (fh_10 (by omega)) (by assumption))
    | (refine ret_RT hret (by assumption) (by assumption) (fun p h => by repeat (first | exact h | refine List.mem_cons_of_mem _ ?_)) ?_
       first
       | with_reducible exact ex (fh_0 (by omega)) (fv_0 (by omega)) (by assumption)
       | with_reducible exact ex (fh_1 (by omega)) (fv_1 (by omega)) (by assumption)
       | with_reducible exact ex (fh_2 (by omega)) (fv_2 (by omega)) (by assumption)
       | with_reducible exact ex (fh_3 (by omega)) (fv_3 (by omega)) (by assumption)
       | with_reducible exact ex (fh_4 (by omega)) (fv_4 (by omega)) (by assumption)
       | with_reducible exact ex (fh_5 (by omega)) (fv_5 (by omega)) (by assumption)
       | with_reducible exact ex (fh_6 (by omega)) (fv_6 (by omega)) (by assumption)
       | with_reducible exact ex (fh_7 (by omega)) (fv_7 (by omega)) (by assumption)
       | with_reducible exact ex (fh_8 (by omega)) (fv_8 (by omega)) (by assumption)
       | with_reducible exact ex (fh_9 (by omega)) (fv_9 (by omega)) (by assumption)
       | with_reducible exact ex (fh_10 (by omega)) (fv_10 (by omega)) (by assumption))
end
end
section
/-- a new tuple comes back, or the word 'refused' -/
def RS (P : Int → Int → Int → Prop) (X : Prop) (nw : List (Addr × Obj)) (v : Value) : Prop := RT P nw v ∨ (nw = [] ∧ X ∧ ∃ t, v = .str (Str.ofString "refused") t)
/-- an int comes back, or the word 'refused' -/
def RSI (P : Int → Prop) (X : Prop) (nw : List (Addr × Obj)) (v : Value) : Prop := RI P nw v ∨ (nw = [] ∧ X ∧ ∃ t, v = .str (Str.ofString "refused") t)
noncomputable def pick3 (P : Int → Int → Int → Prop) : Int × Int × Int := @dite _ (∃ t : Int × Int × Int, P t.1 t.2.1 t.2.2) (Classical.propDecidable _) (fun h => Classical.choose h) (fun _ => (0, 0, 0))
theorem pick3_eq {P : Int → Int → Int → Prop} (hu : ∀ a b c a' b' c', P a b c → P a' b' c' → a = a' ∧ b = b' ∧ c = c') {a b c : Int} (h : P a b c) : a = (pick3 P).1 ∧ b = (pick3 P).2.1 ∧ c = (pick3 P).2.2 := by
  have hex : ∃ t : Int × Int × Int, P t.1 t.2.1 t.2.2 := ⟨(a, b, c), h⟩
  have e : pick3 P = Classical.choose hex := by
    unfold pick3
    rw [dif_pos hex]
  rw [e]
  exact hu _ _ _ _ _ _ h (Classical.choose_spec hex)
/-- the date of a day -/
def Is3 (j : Int) (a b c : Int) : Prop := a = (pick3 (IsDate j)).1 ∧ b = (pick3 (IsDate j)).2.1 ∧ c = (pick3 (IsDate j)).2.2
theorem top_told {D : Nat} {f : Addr} {vs : List Value} {P X : Prop} {j : Int} (C : TopCalls D f vs (RS (fun a b c => P ∧ Is3 j a b c) X))
    {w : World} {mean : ExcName → Option Value} {mg mb : Str → Option Value} {dp un : Nat} {gd : Option (List Code)} {cn : Str} {cs : Scope} {a : Addr} {ccd : Value} {A₀ : Around} {h₀ : Heap} {L : Addr} {m : Str → Option Value} {news : List (Addr × Obj)} {s : Shared} {Q E : Value → Shared → Prop}
    (H : Here D w mean mg mb dp un cs [] A₀ h₀ h₀ L m news s)
    (ret : P → ∀ (D : Addr) (c : Nat) (t1 t2 t3 : Tok) (h' : Heap) (tk' : Nat), Fr h₀ L h' m → News h₀ L h' ((D, ({ cls := .type "tuple", data := .seq #[.int (pick3 (IsDate j)).1 t1, .int (pick3 (IsDate j)).2.1 t2, .int (pick3 (IsDate j)).2.2 t3] c } : Obj)) :: news) → Q (.ref D) { s with heap := h', toks := tk' })
    (non : X → ∀ (t : Tok) (h' : Heap) (tk' : Nat), Fr h₀ L h' m → News h₀ L h' news → Q (.str (Str.ofString "refused") t) { s with heap := h', toks := tk' }) :
    wpAny (model PySem.Challenge.rw_ja0023_02.row.prog w) (ktrTop dp un gd cn cs L a ccd [] []) (call (.ref f) vs) Q E s := by
  refine C _ _ _ _ _ _ _ _ _ _ _ _ _ _ _ _ _ _ _ H.B H.F H.X H.N H.T H.hk H.hd H.hu ?_
  rintro _ _ h' tk' (⟨D', c, y, mo, d, t1, t2, t3, rfl, rfl, hp, rfl, rfl, rfl⟩ | ⟨rfl, h, t, rfl⟩) F' N'
  · exact ret hp D' c t1 t2 t3 h' tk' F' N'
  · exact non h t h' tk' F' N'
theorem top_any {D : Nat} {f : Addr} {vs : List Value} {P X : Prop} {x : Int} (C : TopCalls D f vs (RSI (fun v => P ∧ v = x) X))
    {w : World} {mean : ExcName → Option Value} {mg mb : Str → Option Value} {dp un : Nat} {gd : Option (List Code)} {cn : Str} {cs : Scope} {a : Addr} {ccd : Value} {A₀ : Around} {h₀ : Heap} {L : Addr} {m : Str → Option Value} {news : List (Addr × Obj)} {s : Shared} {Q E : Value → Shared → Prop}
    (H : Here D w mean mg mb dp un cs [] A₀ h₀ h₀ L m news s)
    (ret : P → ∀ (t : Tok) (h' : Heap) (tk' : Nat), Fr h₀ L h' m → News h₀ L h' news → Q (.int x t) { s with heap := h', toks := tk' })
    (non : X → ∀ (t : Tok) (h' : Heap) (tk' : Nat), Fr h₀ L h' m → News h₀ L h' news → Q (.str (Str.ofString "refused") t) { s with heap := h', toks := tk' }) :
    wpAny (model PySem.Challenge.rw_ja0023_02.row.prog w) (ktrTop dp un gd cn cs L a ccd [] []) (call (.ref f) vs) Q E s := by
  refine C _ _ _ _ _ _ _ _ _ _ _ _ _ _ _ _ _ _ _ H.B H.F H.X H.N H.T H.hk H.hd H.hu ?_
  rintro _ _ h' tk' (⟨rfl, i, t, rfl, h, rfl⟩ | ⟨rfl, h, t, rfl⟩) F' N'
  · exact ret h t h' tk' F' N'
  · exact non h t h' tk' F' N'
theorem calls_K3 {D : Nat} {f : Addr} {vs : List Value} {j : Int} (C : CallsTo D f vs (RT (Is3 j)))
    {w : World} {mean : ExcName → Option Value} {mg mb : Str → Option Value} {dp un : Nat} {gd : Option (List Code)} {cn : Str} {cs : Scope} {a : Addr} {ccd : Value} {cl : List (Str × Addr)} {outer : List Env} {A₀ : Around} {base h₀ : Heap} {L : Addr} {m : Str → Option Value} {news : List (Addr × Obj)} {s : Shared} {Q E : Value → Shared → Prop}
    (H : Here D w mean mg mb dp un cs outer A₀ base h₀ L m news s)
    (ret : ∀ (D : Addr) (c : Nat) (t1 t2 t3 : Tok) (h' : Heap) (tk' : Nat), Fr h₀ L h' m → News h₀ L h' ((D, ({ cls := .type "tuple", data := .seq #[.int (pick3 (IsDate j)).1 t1, .int (pick3 (IsDate j)).2.1 t2, .int (pick3 (IsDate j)).2.2 t3] c } : Obj)) :: news) → Q (.ref D) { s with heap := h', toks := tk' }) :
    wpAny (model PySem.Challenge.rw_ja0023_02.row.prog w) (ktrTop dp un gd cn cs L a ccd cl outer) (call (.ref f) vs) Q E s := by
  refine calls_use C H ?_
  rintro _ _ ⟨D', c, y, mo, d, t1, t2, t3, rfl, rfl, rfl, rfl, rfl⟩ h' tk' F' N'
  exact ret D' c t1 t2 t3 h' tk' F' N'
theorem is3_of {j a b c : Int} (h : IsDate j a b c) : Is3 j a b c := pick3_eq (fun _ _ _ _ _ _ h1 h2 => date_unique h1 h2) h
theorem is3_0 {j a b c : Int} (h : IsDate j a b c) : Is3 (j - 0) a b c := by
  rw [Int.sub_zero]
  exact is3_of h
theorem ret_RS {h₀ : Heap} {L : Addr} {m : Str → Option Value} {news all : List (Addr × Obj)} {s : Shared} {Q : Value → Shared → Prop} {P : Int → Int → Int → Prop} {X : Prop}
    (ret : ∀ (nw : List (Addr × Obj)) (v : Value) (h' : Heap) (tk' : Nat), RS P X nw v → Fr h₀ L h' m → News h₀ L h' (nw ++ news) → Q v { s with heap := h', toks := tk' })
    {D : Addr} {c : Nat} {y mo d : Int} {t1 t2 t3 : Tok} {h' : Heap} {tk' : Nat} (F : Fr h₀ L h' m) (N : News h₀ L h' ((D, ({ cls := .type "tuple", data := .seq #[.int y t1, .int mo t2, .int d t3] c } : Obj)) :: all)) (hs : ∀ p ∈ news, p ∈ all) (r : P y mo d) : Q (.ref D) { s with heap := h', toks := tk' } :=
  ret_RT (fun nw v h' tk' r => ret nw v h' tk' (.inl r)) F N hs r
local macro_rules | `(tactic| ktr_step) => `(tactic| (refine wpAny_call ?_; k_dflt (refine' code_defS0 (by k_asm) (by k_asm) (by k_asm) (by k_asm) (by k_asm) rfl (by k_is) (by k_is) (by ktr_room) (by first | exact BindsTo.of_eq rfl | exact binds_K (by k_in) rfl (by k_is) rfl rfl rfl) (locs rfl) ?_ (by assumption) rfl rfl rfl (by decide); k_whole; intros; (try dsimp only); (try k_fold))))
local macro_rules | `(tactic| walk_at "call ref") => `(tactic| first | (ktr_call 120 (k_gregYear _ _ _ _ _ _ (by omega) (by omega) (by omega) (by omega) (.inl (by omega)))) | (ktr_call 290 (ahead_all _ _ _ _ (by assumption) (by assumption) (by assumption) (by assumption))) | (ktr_call 283 (plain_all _ _ _ _ (by assumption) (by assumption) (by assumption) (by assumption))))
set_option maxRecDepth 100000 in
set_option maxHeartbeats 8000000 in
theorem c_told_false (k y : Int) (t1 t2 : Tok) (h0 : 0 ≤ k) (h9 : k ≤ 10) (h1 : 1 ≤ y) (h2 : y ≤ 6000) : TopCalls 12 297 [.int k t1, .int y t2, .bool false] (RS (fun a b c => FHas y k ∧ Is3 (FVal y k - 0) a b c) (¬ FHas y k)) := by
  unfold TopCalls
  k_fill
  w_top off
  intro w mean mg mb dp un gd cn cs a' ccd A₀ h₀ L fm news s Q E B F X N T hk hd hu hret
  ktr_step
  k_steps
  all_goals first
    | exact ret_sub hret [] (.inr ⟨rfl, by assumption, _, rfl⟩) (by assumption) (by assumption) (fun p hp => by repeat (first | exact hp | refine List.mem_cons_of_mem _ ?_))
    | (rename (FHas _ _ ∧ IsDate _ _ _ _) => hi
       exact ret_RS hret (by assumption) (by assumption) (fun p h => by repeat (first | exact h | refine List.mem_cons_of_mem _ ?_)) ⟨hi.1, by first | exact is3_of hi.2 | exact is3_0 hi.2⟩)
set_option maxRecDepth 100000 in
set_option maxHeartbeats 8000000 in
theorem c_told_true (k y : Int) (t1 t2 : Tok) (h0 : 0 ≤ k) (h9 : k ≤ 10) (h1 : 1 ≤ y) (h2 : y ≤ 6000) : TopCalls 12 297 [.int k t1, .int y t2, .bool true] (RS (fun a b c => FHas y k ∧ Is3 (FVal y k - 1) a b c) (¬ FHas y k)) := by
  unfold TopCalls
  k_fill
  w_top off
  intro w mean mg mb dp un gd cn cs a' ccd A₀ h₀ L fm news s Q E B F X N T hk hd hu hret
  ktr_step
  k_steps
  all_goals first
    | exact ret_sub hret [] (.inr ⟨rfl, by assumption, _, rfl⟩) (by assumption) (by assumption) (fun p hp => by repeat (first | exact hp | refine List.mem_cons_of_mem _ ?_))
    | (rename (FHas _ _ ∧ IsDate _ _ _ _) => hi
       exact ret_RS hret (by assumption) (by assumption) (fun p h => by repeat (first | exact h | refine List.mem_cons_of_mem _ ?_)) ⟨hi.1, by first | exact is3_of hi.2 | exact is3_0 hi.2⟩)
set_option maxRecDepth 100000 in
set_option maxHeartbeats 8000000 in
theorem c_any (g m d : Int) (t1 t2 t3 : Tok) (h1 : 1 ≤ g) (m1 : 1 ≤ m) (m2 : m ≤ 12) (d1 : 1 ≤ d) : TopCalls 9 304 [.int g t1, .int m t2, .int d t3] (RSI (fun v => HasV g m d ∧ v = PV g m d) (¬ HasV g m d)) := by
  unfold TopCalls
  k_fill
  w_top off
  intro w mean mg mb dp un gd cn cs a' ccd A₀ h₀ L fm news s Q E B F X N T hk hd hu hret
  ktr_step
  k_steps
  all_goals first
    | exact ret_sub hret [] (.inr ⟨rfl, by assumption, _, rfl⟩) (by assumption) (by assumption) (fun p hp => by repeat (first | exact hp | refine List.mem_cons_of_mem _ ?_))
    | exact ret_sub hret [] (.inl (RI.of (by assumption))) (by assumption) (by assumption) (fun p hp => by repeat (first | exact hp | refine List.mem_cons_of_mem _ ?_))
end
section
theorem rt_mono {P P' : Int → Int → Int → Prop} (h : ∀ a b c, P a b c → P' a b c) : ∀ nw v, RT P nw v → RT P' nw v :=
  fun _ _ ⟨D, c, y, m, d, t1, t2, t3, e1, e2, hp⟩ => ⟨D, c, y, m, d, t1, t2, t3, e1, e2, h _ _ _ hp⟩
theorem k_lawG (j : Int) (t : Tok) : CallsTo 2 222 [.int j t] (RT (Is3 j)) := calls_mono (c_lawG j t) (rt_mono fun _ _ _ h => is3_of h)
theorem my_eq {prog : Program} {w : World} {A : Around} {E : Value → Shared → Prop} {s : Shared} {a b : Int} {t u : Tok} {Q : Value → Shared → Prop} (h1 : a = b → Q (.bool true) s) (h2 : a ≠ b → Q (.bool false) s) : wpAny (model prog w) A (compareOp .Eq (.int a t) (.int b u)) Q E s := by
  refine eq_int ?_
  by_cases h : a = b
  · rw [h] at h1 ⊢
    simpa using h1 rfl
  · have : (a == b) = false := by simpa using h
    rw [this]
    exact h2 h
local macro_rules | `(tactic| ktr_step) => `(tactic| first | (intro hl' t' h' tk' F' N'; exact absurd (by with_reducible assumption) hl') | (intro hv'; exact absurd hv' (by with_reducible assumption)) | (intros; regstrif_slice))
local macro_rules | `(tactic| walk_at "call ref") => `(tactic| k_dflt (k_here; first
  | ((with_reducible show wpAny _ _ (PySem.call (Value.ref 222) _) _ _ _); refine' calls_K3 (k_lawG _ _) (by regstrif_fact) ?_; intros; regstrif_slice)
  | ((with_reducible show wpAny _ _ (PySem.call (Value.ref 297) _) _ _ _); (first | refine' top_told (c_told_true _ _ _ _ (by omega) (by omega) (by omega) (by omega)) (by regstrif_fact) ?_ ?_ | refine' top_told (c_told_false _ _ _ _ (by omega) (by omega) (by omega) (by omega)) (by regstrif_fact) ?_ ?_) <;> ktr_step)
  | ((with_reducible show wpAny _ _ (PySem.call (Value.ref 304) _) _ _ _); refine' top_any (c_any _ _ _ _ _ _ (by omega) (by omega) (by omega) (by omega)) (by regstrif_fact) ?_ ?_ <;> ktr_step)
  | ((with_reducible show wpAny _ _ (PySem.call (Value.ref 215) _) _ _ _); cell_ask (fun _ => True))
  | ktr_call 276 (due_all _ _ _ _ (by omega) (by omega))
  | ktr_call 269 (k_within _ _ _ _ _ _)))
local macro_rules | `(tactic| walk_at "compareOp Eq int int") => `(tactic| (k_here; k_dflt (refine my_eq ?_ ?_); all_goals (intro hc'; (try exact absurd rfl hc'))))
theorem enter_law {M : Model} {A : Around} {E : Value → Shared → Prop} {s : Shared} {h₀ : Heap} {L a : Addr} {ccd : Value} {cn : Str} {cs : Scope} {body : List Stmt} {Q : Flow → Shared → Prop} {x0 : Str} {v0 : Value} (rest gs : List Str) (F : Fr h₀ L s.heap (fun x => List.lookup x [(x0, v0)].reverse))
    (O : LocOk cs (x0 :: rest) gs) (h : Fr h₀ L s.heap (mapOf (x0 :: rest) (some v0 :: rest.map fun _ => none)) → LocOk cs (x0 :: rest) gs → wpAny M A (execs body (envOf cn cs L a ccd)) Q E s) : wpAny M A (execs body (envOf cn cs L a ccd)) Q E s := by
  have e := enter_map [x0] [v0] rest rfl (by simp)
  simp only [List.zip_cons_cons, List.zip_nil_right, List.cons_append, List.nil_append, List.map_cons, List.map_nil] at e
  rw [e] at F
  exact h F O
theorem RestT.inv {prog : Program} {w : World} {A : Around} {E : Value → Shared → Prop} {h₀ : Heap} {target : PySem.Expr} {body : List Stmt} {Q : Flow → Shared → Prop} {s : Shared} {ns : List Str} {news : List (Addr × Obj)} {I : Addr} {cn : Str} {cs : Scope} {L a : Addr} {ccd : Value} (Inv : List (Option Value) → Prop) (lo hi : Int)
    (turn : ∀ (k : Int) (t : Tok), lo ≤ k → k ≤ hi → ∀ vs, Inv vs → ∀ it h tk, Fr h₀ L h (mapOf ns vs) → News h₀ L h ((I, it) :: news) →
      wpAny (model prog w) A (assign target (envOf cn cs L a ccd) (.int k t)) (fun _ s₂ => wpAny (model prog w) A (execs body (envOf cn cs L a ccd)) (TurnT h₀ L { s with heap := h, toks := tk } I it ns news Inv Q) E s₂) E { s with heap := h, toks := tk })
    (done : ∀ vs, Inv vs → ∀ h tk, Fr h₀ L h (mapOf ns vs) → News h₀ L h news → Q .next { s with heap := h, toks := tk }) :
    ∀ (xs : List Value) (vs : List (Option Value)), (∀ v ∈ xs, ∃ k t, v = .int k t ∧ lo ≤ k ∧ k ≤ hi) → Inv vs → RestT prog w A E h₀ (envOf cn cs L a ccd) target body Q s ns news I xs vs
  | [], vs, _, h0 => RestT.zero fun h tk F N => done vs h0 h tk F N
  | v :: r, vs, hx, h0 => RestT.turn fun it h tk F N => by
    obtain ⟨k, t, rfl, h1, h2⟩ := hx v List.mem_cons_self
    refine wpAny_mono (turn k t h1 h2 vs h0 it h tk F N) (fun _ s₂ h₂ => wpAny_mono h₂ (fun f s₃ p => ?_) fun _ _ e => e) fun _ _ e => e
    have nx : (∃ h' tk' vs', s₃ = { { s with heap := h, toks := tk } with heap := h', toks := tk' } ∧ Fr h₀ L h' (mapOf ns vs') ∧ News h₀ L h' ((I, it) :: news) ∧ Inv vs') →
        ∃ h' tk' vs', s₃ = { { s with heap := h, toks := tk } with heap := h', toks := tk' } ∧ Fr h₀ L h' (mapOf ns vs') ∧ News h₀ L h' ((I, it) :: news) ∧ RestT prog w A E h₀ (envOf cn cs L a ccd) target body Q s ns news I r vs' := by
      rintro ⟨h', tk', vs', e, F', N', i'⟩
      exact ⟨h', tk', vs', e, F', N', RestT.inv Inv lo hi turn done r vs' (fun v hv => hx v (List.mem_cons_of_mem _ hv)) i'⟩
    cases f with
    | ret v => exact p
    | brk => exact p
    | next => exact nx p
    | cont => exact nx p
@[irreducible] def LawIv (S : Addr) (n : Int) (tn : Tok) (y : Int) (ty : Tok) (vs : List (Option Value)) : Prop := ∃ a b c d e : Option Value, vs = [some (.ref S), some (.int n tn), some (.int y ty), a, b, c, d, e, none, none]
theorem lawIv_mk {S : Addr} {n : Int} {tn : Tok} {y : Int} {ty : Tok} {a b c d e : Option Value} : LawIv S n tn y ty [some (.ref S), some (.int n tn), some (.int y ty), a, b, c, d, e, none, none] := by
  unfold LawIv; exact ⟨a, b, c, d, e, rfl⟩
theorem lawIv {S : Addr} {n : Int} {tn : Tok} {y : Int} {ty : Tok} {vs : List (Option Value)} (h : LawIv S n tn y ty vs) : ∃ a b c d e : Option Value, vs = [some (.ref S), some (.int n tn), some (.int y ty), a, b, c, d, e, none, none] := by
  unfold LawIv at h; exact h
/-- a loop over the tuple (1, 2) of the law's frame -/
theorem law_loop {prog : Program} {w : World} {A : Around} {E : Value → Shared → Prop} {s : Shared} {h₀ : Heap} {target : PySem.Expr} {body : List Stmt} {Q : Flow → Shared → Prop} {ns : List Str} {news : List (Addr × Obj)} {cn : Str} {cs : Scope} {L aa : Addr} {ccd : Value} {ax : Addr} {c : Nat} {t1 t2 : Tok} {S : Addr} {n : Int} {tn : Tok} {y : Int} {ty : Tok} {a' b' c' d' e' : Option Value}
    (hh : A.handled = none) (F : Fr h₀ L s.heap (mapOf ns [some (.ref S), some (.int n tn), some (.int y ty), a', b', c', d', e', none, none])) (N : News h₀ L s.heap news) (hm : (ax, ({ cls := .type "tuple", data := .seq #[.int 1 t1, .int 2 t2] c } : Obj)) ∈ news)
    (turn : ∀ (I : Addr) (k : Int) (t : Tok), 1 ≤ k → k ≤ 2 → ∀ (a b c d e : Option Value) it h tk, Fr h₀ L h (mapOf ns [some (.ref S), some (.int n tn), some (.int y ty), a, b, c, d, e, none, none]) → News h₀ L h ((I, it) :: news) →
      wpAny (model prog w) A (assign target (envOf cn cs L aa ccd) (.int k t)) (fun _ s₂ => wpAny (model prog w) A (execs body (envOf cn cs L aa ccd)) (TurnT h₀ L { s with heap := h, toks := tk } I it ns news (LawIv S n tn y ty) Q) E s₂) E { s with heap := h, toks := tk })
    (done : ∀ (a b c d e : Option Value) h tk, Fr h₀ L h (mapOf ns [some (.ref S), some (.int n tn), some (.int y ty), a, b, c, d, e, none, none]) → News h₀ L h news → Q .next { s with heap := h, toks := tk }) :
    wpAny (model prog w) A (pyIter (.ref ax)) (fun it s₂ => TurnsAt prog w A h₀ (envOf cn cs L aa ccd) target body Q E it s₂) E s :=
  iter_tupT (env := envOf cn cs L aa ccd) (xs := [.int 1 t1, .int 2 t2]) hh F N hm fun I _ => RestT.inv (LawIv S n tn y ty) 1 2
    (fun k t h1 h2 vs hv it h tk F' N' => by
      obtain ⟨a, b, c, d, e, rfl⟩ := lawIv hv
      exact turn I k t h1 h2 a b c d e it h tk F' N')
    (fun vs hv h tk F' N' => by
      obtain ⟨a, b, c, d, e, rfl⟩ := lawIv hv
      exact done a b c d e h tk F' N') _ _
    (fun v hv => by
      simp only [List.mem_cons, List.mem_nil_iff, or_false] at hv
      rcases hv with rfl | rfl
      · exact ⟨1, t1, rfl, by omega, by omega⟩
      · exact ⟨2, t2, rfl, by omega, by omega⟩) lawIv_mk
local macro_rules | `(tactic| walk_at "exec For Name Tuple cons nil") => `(tactic| (k_here; (rename Fr _ _ _ _ => lF'); (with_unfolding_all refine' For_turns lF' ?_)))
local macro_rules | `(tactic| walk_at "pyIter ref") => `(tactic| k_dflt (k_here; (with_reducible show wpAny _ _ (pyIter (Value.ref _)) (fun it s₂ => TurnsAt _ _ _ _ _ _ _ _ _ it s₂) _ _); refine' law_loop rfl (by k_asm) (by k_asm) (by k_mem) ?_ ?_ <;> (intros; regstrif_slice)))
-- the ways to a cell meet
local macro_rules | `(tactic| walk_at "eval BinOp Constant Add IfExp") => `(tactic| cell_ask (fun y => 1 ≤ y ∧ y ≤ 6000))
set_option maxRecDepth 100000 in
set_option maxHeartbeats 8000000 in
theorem lawHolds : PySem.Challenge.rw_ja0023_02.Holds := by
  refine Mine.hd ?_
  k_go0
  all_goals (try k_fold)
  all_goals (try dsimp only)
  rename Fr _ _ _ _ => F0
  refine enter_law ["number", "year", "k", "which", "due", "eve", "told", "month", "day"] ["_law_cell", "abs", "_law_due", "_law_told", "_law_gregorian", "_law_within", "_law_any"] F0 (LocOk.of (by decide +kernel)) ?_
  clear F0
  intro F1 O1
  simp only [List.map_cons, List.map_nil] at F1
  k_steps
  all_goals (try dsimp only)
  all_goals first
    | exact lawIv_mk
    | exact meet_end (by assumption) (by assumption) (by regstrif_gather) (by first | trivial | omega)
    | ((try simp only [beq_self_eq_true])
       refine goodW_bool (by assumption) (by assumption) (raisesW_false ?_) ?_
       · wrow_none_raised
       · first | kc_post | wrow_post)
end
end Mine
set_option maxRecDepth 100000 in
set_option maxHeartbeats 8000000 in
theorem PySem.Challenge.cw_ja0023_02_holds : PySem.Challenge.rw_ja0023_02.Holds := by
  exact Mine.lawHolds
