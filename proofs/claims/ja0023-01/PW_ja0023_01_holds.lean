import PyProof.Rows.All
import Wide.All
import OpenK.AllK
import Wide.FinOn
import Lean
import PySem.Challenge.RW_ja0023_01
open PySem PySem.W PyProof.Rows PySem.Calls
set_option Elab.async false
set_option linter.unusedVariables false
set_option linter.unusedSimpArgs false
set_option rowWalk.seconds 0
set_option compiler.extract_closed false
namespace Mine
/-- a frame's map, by the def's own names in their order -/
def mapOf : List Str → List (Option Value) → Str → Option Value
  | x :: ns, v :: vs, y => if y = x then v else mapOf ns vs y
  | _, _, _ => none
inductive AtN : List Str → List (Option Value) → Str → Value → Prop
  | head {x ns v vs} : AtN (x :: ns) (some v :: vs) x v
  | tail {x ns w vs y v} : AtN ns vs y v → AtN (x :: ns) (w :: vs) y v
inductive PutN : List Str → List (Option Value) → Str → Value → List (Option Value) → Prop
  | head {x ns w vs v} : PutN (x :: ns) (w :: vs) x v (some v :: vs)
  | tail {x ns w vs y v vs'} : PutN ns vs y v vs' → PutN (x :: ns) (w :: vs) y v (w :: vs')
theorem AtN.mem {ns vs y v} (h : AtN ns vs y v) : y ∈ ns := by
  induction h with
  | head => exact .head _
  | tail _ ih => exact .tail _ ih
theorem AtN.get {ns vs y v} (h : AtN ns vs y v) (nd : ns.Nodup) : mapOf ns vs y = some v := by
  induction h with
  | head => simp [mapOf]
  | @tail x ns w vs y v h ih =>
    have : y ≠ x := fun e => (List.nodup_cons.mp nd).1 (e ▸ h.mem)
    simp only [mapOf, if_neg this]
    exact ih (List.nodup_cons.mp nd).2
theorem PutN.mem {ns vs y v vs'} (h : PutN ns vs y v vs') : y ∈ ns := by
  induction h with
  | head => exact .head _
  | tail _ ih => exact .tail _ ih
theorem PutN.put {ns vs x v vs'} (h : PutN ns vs x v vs') (nd : ns.Nodup) : (fun y => if y = x then some v else mapOf ns vs y) = mapOf ns vs' := by
  induction h with
  | @head x ns w vs v => funext y; by_cases e : y = x <;> simp [mapOf, e]
  | @tail x ns w vs y v vs' h ih =>
    have hx : y ≠ x := fun e => (List.nodup_cons.mp nd).1 (e ▸ h.mem)
    have ih := ih (List.nodup_cons.mp nd).2
    funext z
    have iz := congrFun ih z
    simp only [mapOf] at iz ⊢
    by_cases e : z = x
    · subst e; rw [if_neg (Ne.symm hx), if_pos rfl, if_pos rfl]
    · rw [if_neg e, if_neg e]; exact iz
/-- binds as they come in, as a map -/
theorem enter_map : ∀ (as : List Str) (vals : List Value) (rest : List Str), as.length = vals.length → as.Nodup → (fun y => (as.zip vals).reverse.lookup y) = mapOf (as ++ rest) (vals.map some ++ rest.map fun _ => none) := by
  intro as vals rest hl nd
  have none_map : ∀ r : List Str, ∀ y, mapOf r (r.map fun _ => none) y = none := by
    intro r y
    induction r with
    | nil => rfl
    | cons z r ih => simp only [List.map_cons, mapOf]; split; rfl; exact ih
  have key : ∀ (as : List Str) (vals : List Value), as.length = vals.length → as.Nodup → ∀ y, (as.zip vals).reverse.lookup y = mapOf (as ++ rest) (vals.map some ++ rest.map fun _ => none) y := by
    intro as
    induction as with
    | nil => intro vals hl nd y; cases vals with
      | nil => exact (none_map rest y).symm
      | cons => cases hl
    | cons a as ih => intro vals hl nd y; cases vals with
      | nil => cases hl
      | cons v vals =>
        have ih := ih vals (by simpa using hl) (List.nodup_cons.mp nd).2 y
        simp only [List.zip_cons_cons, List.reverse_cons, List.cons_append, List.map_cons, mapOf]
        rw [List.lookup_append, ih]
        by_cases e : y = a
        · subst e
          rw [if_pos rfl]
          have hz : (as.zip vals).reverse.lookup y = none := by
            rw [List.lookup_eq_none_iff]
            intro p hp
            have := List.of_mem_zip (List.mem_reverse.mp hp)
            rw [bne_iff_ne]
            intro hpe
            exact (List.nodup_cons.mp nd).1 (hpe ▸ this.1)
          rw [← ih, hz]
          simp [List.lookup]
        · rw [if_neg e]
          have : List.lookup y [(a, v)] = none := by
            have hb : (y == a) = false := by simpa using e
            simp [List.lookup, hb]
          rw [this]
          simp
  exact funext (key as vals hl nd)
structure LocOk (cs : Scope) (ns gs : List Str) : Prop where
  kind : cs.kind = .function
  nodup : ns.Nodup
  loc : ∀ x ∈ ns, cs.names.lookup x = some .local ∧ (x == ("__debug__" : Str)) = false
  glob : ∀ x ∈ gs, cs.names.lookup x = some .globalImplicit ∧ (x == ("__debug__" : Str)) = false
def locOkB (cs : Scope) (ns gs : List Str) : Bool := cs.kind == .function && decide ns.Nodup && (ns.all fun x => decide (cs.names.lookup x = some .local) && !(x == ("__debug__" : Str))) && (gs.all fun x => decide (cs.names.lookup x = some .globalImplicit) && !(x == ("__debug__" : Str)))
theorem LocOk.of {cs : Scope} {ns gs : List Str} (h : locOkB cs ns gs = true) : LocOk cs ns gs := by
  simp only [locOkB, Bool.and_eq_true, List.all_eq_true, decide_eq_true_eq, Bool.not_eq_true', beq_iff_eq] at h
  exact ⟨by have := h.1.1.1; revert this; cases cs.kind <;> decide, h.1.1.2, fun x hx => h.1.2 x hx, fun x hx => h.2 x hx⟩
section
variable {M : Model} {A : Around} {E : Value → Shared → Prop} {s : Shared} {K : Frag} {h₀ : Heap} {L a : Addr} {ns gs : List Str} {vs vs' : List (Option Value)} {mg mb : Str → Option Value} {cn : Str} {cs : Scope} {ccd : Value} {p : Program} {loose : List Str} {mean : ExcName → Option Value}
  {x : Str} {pos : Pos} {v : Value} {news : List (Addr × Obj)}
theorem nameM {Q : Value → Shared → Prop} (F : Fr h₀ L s.heap (mapOf ns vs)) (O : LocOk cs ns gs) (a : AtN ns vs x v) (h : Q v s) : wpAny M A (eval (.Name x pos) (envOf cn cs L a' ccd)) Q E s :=
  wpAny_Name (wpAny_loadName_local O.kind (O.loc x a.mem).1 F.ns (a.get O.nodup) h) (O.loc x a.mem).2
theorem nameMl {Q : Value → Shared → Prop} (F : Fr h₀ L s.heap (mapOf ns vs)) (O : LocOk cs ns gs) (a : AtN ns vs x v) (h : Q v s) : wpAny M A (loadName (envOf cn cs L a' ccd) x) Q E s :=
  wpAny_loadName_local O.kind (O.loc x a.mem).1 F.ns (a.get O.nodup) h
theorem nameMG {m : Str → Option Value} {Q : Value → Shared → Prop} (F : Fr h₀ L s.heap m) (X : K.In h₀) (T : Top p loose mean mg mb h₀) (O : LocOk cs ns gs) (hx : x ∈ gs) (e : nsIn K mainGlobals x = some (some v)) (h : Q v s) : wpAny M A (eval (.Name x pos) (envOf cn cs L a' ccd)) Q E s :=
  nameX_K (cl := []) F X (topRead_of T) e h O.kind (O.glob x hx).1 (O.glob x hx).2
theorem nameMB {m : Str → Option Value} {Q : Value → Shared → Prop} (F : Fr h₀ L s.heap m) (X : K.In h₀) (T : Top p loose mean mg mb h₀) (O : LocOk cs ns gs) (hx : x ∈ gs) (e : nsIn K mainGlobals x = some none) (hv : bootBuiltins x = some v ∧ x ≠ "__name__") (h : Q v s) : wpAny M A (eval (.Name x pos) (envOf cn cs L a' ccd)) Q E s :=
  nameX_B (cl := []) F X (topRead_of T) e hv.1 hv.2 h O.kind (O.glob x hx).1 (O.glob x hx).2
theorem storeM {Q : Unit → Shared → Prop} (F : Fr h₀ L s.heap (mapOf ns vs)) (N : News h₀ L s.heap news) (O : LocOk cs ns gs) (P : PutN ns vs x v vs')
    (h : ∀ h' tk', Fr h₀ L h' (mapOf ns vs') → News h₀ L h' news → Q () { s with heap := h', toks := tk' }) : wpAny M A (storeName (envOf cn cs L a' ccd) x v) Q E s :=
  storeX_L (cl := []) F N (fun h' F' N' => h h' _ (by rw [P.put O.nodup] at F'; exact F') N') O.kind (O.loc x P.mem).1
end
section
variable {prog : Program} {w : World} {A A₀ : Around} {s : Shared} {K : Frag} {L : Addr} {h₀ base : Heap} {m mg mb : Str → Option Value} {news : List (Addr × Obj)} {p : Program} {loose : List Str} {mean : ExcName → Option Value}
theorem enterM {env : Env} {outer : List Env} {R : Result → Shared → Prop} {name qual : Str} {params : Arguments} {body : List Stmt} {scope : Scope} {dV kV doc pm cdv ct oc : Value} {an od : Option Addr} {osl : Array (Option Value)} {f : Addr} {vals : List Value}
    (as rest gs : List Str)
    (B : Below A₀ base outer h₀) (F : Fr h₀ L s.heap m) (X₀ : K.In h₀) (N : News h₀ L s.heap news) (T : Top p loose mean mg mb h₀) (hA : A.frames = some (env :: outer)) (hf : env.frame = some L) (hke : env.scope.kind = .function)
    (ho : K.lookup f = some ⟨oc, od, .func (fnOf name qual params body scope dV kV doc pm an cdv ct), osl⟩) (hcd : codeIn K cdv qual = true) (hroom : A.depth < recursionLimit)
    (hbind : bindArgs (fnOf name qual params body scope dV kV doc pm an cdv ct) ⟨vals, []⟩ = pure (as.zip vals)) (hlen : as.length = vals.length) (O : LocOk scope (as ++ rest) gs)
    (h : ∀ g L' h₁ tk, Fr h₀ L g m → Fr g L' h₁ (mapOf (as ++ rest) (vals.map some ++ rest.map fun _ => none)) → News g L' h₁ news → Below A base (env :: outer) g → K.In g → Top p loose mean mg mb g → LocOk scope (as ++ rest) gs →
      wpAny (model prog w) (A.deeper (envOf qual scope L' f cdv)) (execs body (envOf qual scope L' f cdv))
        (fun fl s' => LeaveK h₀ L m g R (match fl with | .ret v => v | _ => .none) s')
        (fun e s' => wpAny (model prog w) (A.deeper (envOf qual scope L' f cdv)) (leaving (envOf qual scope L' f cdv) e) (fun _ s'' => R (.error e) s'') (fun e' s'' => R (.error e') s'') s')
        { s with heap := h₁, toks := tk })
    (hco : scope.isCoroutine = false) (hgen : scope.isGenerator = false)
    (hcell : ∀ x ∈ scope.names, x.2 ≠ .cell) : codeAny (model prog w) A (.call (.ref f) ⟨vals, []⟩) R s := by
  have nd : as.Nodup := (List.nodup_append.mp O.nodup).1
  refine code_def (binds := as.zip vals) B F X₀ N T hA hf hke ho hcd hroom (BindsTo.of_eq hbind) ?_ (fun g L' h₁ FG F' N' B' X' T' => ?_) hco hgen O.kind hcell
  · intro y hy
    exact (O.loc y.1 (List.mem_append_left _ (List.of_mem_zip hy).1)).1
  · rw [enter_map as vals rest hlen nd] at F'
    exact h g L' h₁ _ FG F' N' B' X' T' O
end
theorem frPut {h₀ h : Heap} {L : Addr} {ns vs vs' x v} {cs : Scope} {gs : List Str} (F : Fr h₀ L h (fun y => if y = x then some v else mapOf ns vs y)) (O : LocOk cs ns gs) (P : PutN ns vs x v vs') : Fr h₀ L h (mapOf ns vs') := by
  rw [P.put O.nodup] at F; exact F
/-- the end of a loop's turn -/
def TurnM (h₀ : Heap) (L : Addr) (s₁ : Shared) (I : Addr) (it : Obj) (ns : List Str) (news : List (Addr × Obj)) (Inv : List (Option Value) → Prop) (Q : Flow → Shared → Prop) (f : Flow) (s₂ : Shared) : Prop :=
  match f with
  | .ret v => Q (.ret v) s₂
  | .brk => Q .next s₂
  | _ => ∃ h' tk vs', s₂ = { s₁ with heap := h', toks := tk } ∧ Fr h₀ L h' (mapOf ns vs') ∧ News h₀ L h' ((I, it) :: news) ∧ Inv vs'
section
variable {h₀ : Heap} {L : Addr} {s₁ : Shared} {I : Addr} {it : Obj} {ns : List Str} {news all : List (Addr × Obj)} {Inv : List (Option Value) → Prop} {Q : Flow → Shared → Prop} {s₂ : Shared}
theorem TurnM.ret {v : Value} (h : Q (.ret v) s₂) : TurnM h₀ L s₁ I it ns news Inv Q (.ret v) s₂ := h
theorem TurnM.brk (h : Q .next s₂) : TurnM h₀ L s₁ I it ns news Inv Q .brk s₂ := h
theorem TurnM.next {h' : Heap} {tk : Nat} {vs' : List (Option Value)} (F : Fr h₀ L h' (mapOf ns vs')) (N : News h₀ L h' all) (hs : ∀ p ∈ (I, it) :: news, p ∈ all) (h : Inv vs') : TurnM h₀ L s₁ I it ns news Inv Q .next { s₁ with heap := h', toks := tk } :=
  ⟨h', tk, vs', rfl, F, fun p hp => N p (hs p hp), h⟩
theorem TurnM.cont {h' : Heap} {tk : Nat} {vs' : List (Option Value)} (F : Fr h₀ L h' (mapOf ns vs')) (N : News h₀ L h' all) (hs : ∀ p ∈ (I, it) :: news, p ∈ all) (h : Inv vs') : TurnM h₀ L s₁ I it ns news Inv Q .cont { s₁ with heap := h', toks := tk } :=
  ⟨h', tk, vs', rfl, F, fun p hp => N p (hs p hp), h⟩
end
section
variable {prog : Program} {w : World} {A : Around} {E : Value → Shared → Prop} {s : Shared} {h₀ : Heap} {x : Str} {body : List Stmt} {Q : Flow → Shared → Prop} {cn : Str} {cs : Scope} {L a : Addr} {ccd : Value} {ns gs : List Str}
/-- a loop over range(a₀, b₀): Inv vs₀ i vs holds ahead of turn i -/
theorem range_invM {r : Addr} {a₀ b₀ : Int} {t₀ u₀ v₀ : Tok} {vs₀ : List (Option Value)} {news : List (Addr × Obj)} (n : Nat) (Inv : List (Option Value) → Nat → List (Option Value) → Prop)
    (hh : A.handled = none) (hr : IsRange s.heap r a₀ b₀ 1 t₀ u₀ v₀) (hsmall : Builtin.Range.small a₀ b₀ 1 = true) (hn : Builtin.Range.rangeSize a₀ b₀ 1 = (n : Int)) (F : Fr h₀ L s.heap (mapOf ns vs₀)) (N : News h₀ L s.heap news)
    (h0 : Inv vs₀ 0 vs₀)
    (turn : ∀ (I : Addr) (i : Nat) (vs : List (Option Value)) (t : Tok) (h : Heap) (tk : Nat), (∀ p ∈ news, p.1 < I) → i < n → Inv vs₀ i vs → Fr h₀ L h (fun y => if y = x then some (.int (a₀ + (i : Int)) t) else mapOf ns vs y) →
      News h₀ L h ((I, itR (a₀ + ((i + 1 : Nat) : Int)) ((n : Int) - ((i + 1 : Nat) : Int))) :: news) →
      wpAny (model prog w) A (execs body (envOf cn cs L a ccd)) (TurnM h₀ L { s with heap := h, toks := tk } I (itR (a₀ + ((i + 1 : Nat) : Int)) ((n : Int) - ((i + 1 : Nat) : Int))) ns news (Inv vs₀ (i + 1)) Q) E { s with heap := h, toks := tk })
    (done : ∀ (vs : List (Option Value)) (h : Heap) (tk : Nat), Inv vs₀ n vs → Fr h₀ L h (mapOf ns vs) → News h₀ L h news → Q .next { s with heap := h, toks := tk }) :
    wpAny (model prog w) A (pyIter (.ref r)) (fun it s₂ => LoopAtV prog w A h₀ (envOf cn cs L a ccd) x body Q E it s₂) E s := by
  refine iter_rangeUnr (env := envOf cn cs L a ccd) hh hr hsmall hn F N fun I hI => ?_
  have key : ∀ (k i : Nat) (vs : List (Option Value)), i + k = n → Inv vs₀ i vs → RangeRest prog w A E h₀ (envOf cn cs L a ccd) x body Q s I a₀ n k i (mapOf ns vs) news := by
    intro k
    induction k with
    | zero =>
      intro i vs e hi
      have e : i = n := by omega
      subst e
      exact RangeRest.zero fun h tk F' N' => done vs h tk hi F' N'
    | succ k ih =>
      intro i vs e hi
      refine RangeRest.succ fun t h tk F' N' => ?_
      refine wpAny_mono (turn I i vs t h tk hI (by omega) hi F' N') (fun f s₂ p => ?_) fun _ _ e => e
      have fin : (∃ h' tk' vs', s₂ = { { s with heap := h, toks := tk } with heap := h', toks := tk' } ∧ Fr h₀ L h' (mapOf ns vs') ∧ News h₀ L h' ((I, itR (a₀ + ((i + 1 : Nat) : Int)) ((n : Int) - ((i + 1 : Nat) : Int))) :: news) ∧ Inv vs₀ (i + 1) vs') →
          UnrEnd h₀ L { s with heap := h, toks := tk } I (itR (a₀ + ((i + 1 : Nat) : Int)) ((n : Int) - ((i + 1 : Nat) : Int))) (RangeRest prog w A E h₀ (envOf cn cs L a ccd) x body Q s I a₀ n k (i + 1)) s₂ := by
        rintro ⟨h', tk', vs', rfl, F'', N'', hI'⟩
        exact ⟨h', tk', _, news, rfl, F'', N'', fun p hp => Nat.ne_of_lt (hI p hp), ih (i + 1) vs' (by omega) hI'⟩
      cases f with
      | ret v => exact p
      | brk => exact p
      | next => exact fin p
      | cont => exact fin p
  exact key n 0 vs₀ (by omega) h0
/-- a loop over a made list of zs -/
theorem list_invM {ax : Addr} {items : List Value} {zs : List Int} {c : Nat} {vs₀ : List (Option Value)} {news : List (Addr × Obj)} (Inv : List Int → List (Option Value) → Nat → List (Option Value) → Prop)
    (hh : A.handled = none) (F : Fr h₀ L s.heap (mapOf ns vs₀)) (N : News h₀ L s.heap news) (hm : (ax, ({ cls := .type "list", data := .seq items.toArray c } : Obj)) ∈ news) (hi : IntsAre items zs)
    (h0 : Inv zs vs₀ 0 vs₀)
    (turn : ∀ (I : Addr) (it : Obj) (i : Nat) (k : Int) (vs : List (Option Value)) (t : Tok) (h : Heap) (tk : Nat), (∀ p ∈ news, p.1 < I) → zs[i]? = some k → Inv zs vs₀ i vs → Fr h₀ L h (fun y => if y = x then some (.int k t) else mapOf ns vs y) →
      News h₀ L h ((I, it) :: news) →
      wpAny (model prog w) A (execs body (envOf cn cs L a ccd)) (TurnM h₀ L { s with heap := h, toks := tk } I it ns news (Inv zs vs₀ (i + 1)) Q) E { s with heap := h, toks := tk })
    (done : ∀ (vs : List (Option Value)) (h : Heap) (tk : Nat), Inv zs vs₀ zs.length vs → Fr h₀ L h (mapOf ns vs) → News h₀ L h news → Q .next { s with heap := h, toks := tk }) :
    wpAny (model prog w) A (pyIter (.ref ax)) (fun it s₂ => LoopAtV prog w A h₀ (envOf cn cs L a ccd) x body Q E it s₂) E s := by
  refine iter_listUnr (env := envOf cn cs L a ccd) hh F N hm rfl rfl fun I hI => ?_
  have len : items.length = zs.length := hi.length
  have at' : ∀ {items : List Value} {zs : List Int}, IntsAre items zs → ∀ (i : Nat) v, items[i]? = some v → ∃ k t, zs[i]? = some k ∧ v = .int k t := by
    intro items zs hi
    induction hi with
    | nil => intro i v h; simp at h
    | cons n t _ ih =>
      intro i v h
      cases i with
      | zero => simp at h; exact ⟨n, t, by simp, h.symm⟩
      | succ i => simp at h; simpa using ih i v h
  have key : ∀ (k i : Nat) (vs : List (Option Value)), i + k = items.length → Inv zs vs₀ i vs → ListRest prog w A E h₀ (envOf cn cs L a ccd) x body Q s I (ax, ({ cls := .type "list", data := .seq items.toArray c } : Obj)) (items.drop i) (mapOf ns vs) news := by
    intro k
    induction k with
    | zero =>
      intro i vs e hi'
      have e : i = items.length := by omega
      rw [e, List.drop_length]
      exact ListRest.zero fun h tk F' N' => done vs h tk (by rw [← len, ← e]; exact hi') F' N'
    | succ k ih =>
      intro i vs e hi'
      have hlt : i < items.length := by omega
      obtain ⟨kk, t, hk, hv⟩ := at' hi i items[i] (List.getElem?_eq_getElem hlt)
      rw [List.drop_eq_getElem_cons hlt, hv]
      refine ListRest.succ fun it h tk _ F' N' => ?_
      refine wpAny_mono (turn I it i kk vs t h tk hI hk hi' F' N') (fun f s₂ p => ?_) fun _ _ e => e
      have fin : (∃ h' tk' vs', s₂ = { { s with heap := h, toks := tk } with heap := h', toks := tk' } ∧ Fr h₀ L h' (mapOf ns vs') ∧ News h₀ L h' ((I, it) :: news) ∧ Inv zs vs₀ (i + 1) vs') →
          UnrEnd h₀ L { s with heap := h, toks := tk } I it (fun m' n' => (ax, ({ cls := .type "list", data := .seq items.toArray c } : Obj)) ∈ n' ∧ ListRest prog w A E h₀ (envOf cn cs L a ccd) x body Q s I (ax, ({ cls := .type "list", data := .seq items.toArray c } : Obj)) (items.drop (i + 1)) m' n') s₂ := by
        rintro ⟨h', tk', vs', rfl, F'', N'', hI'⟩
        exact ⟨h', tk', _, news, rfl, F'', N'', fun p hp => Nat.ne_of_lt (hI p hp), hm, ih (i + 1) vs' (by omega) hI'⟩
      cases f with
      | ret v => exact p
      | brk => exact p
      | next => exact fin p
      | cont => exact fin p
  have := key items.length 0 vs₀ (by omega) h0
  rwa [List.drop_zero] at this
end
theorem range_size (a b : Int) : Builtin.Range.rangeSize a b 1 = (((b - a).toNat : Nat) : Int) := by
  unfold Builtin.Range.rangeSize
  simp only [gt_iff_lt, Int.zero_lt_one, if_true, Int.ediv_one]
  split <;> omega
theorem range_small {a b : Int} (h1 : -1000000000 ≤ a) (h2 : a ≤ 1000000000) (h3 : -1000000000 ≤ b) (h4 : b ≤ 1000000000) : Builtin.Range.small a b 1 = true := by
  have f : ∀ x : Int, -4000000000 ≤ x → x ≤ 4000000000 → Builtin.Range.rangeFitsLong x = true := by
    intro x hx hy
    unfold Builtin.Range.rangeFitsLong
    simp
    omega
  unfold Builtin.Range.small
  rw [range_size]
  simp only [f a (by omega) (by omega), f b (by omega) (by omega), f 1 (by omega) (by omega), f (((b - a).toNat : Nat) : Int) (by omega) (by omega), f (b + (1 - 1)) (by omega) (by omega), gt_iff_lt, Int.zero_lt_one, if_true, Bool.and_true, Bool.or_true]
end Mine
namespace Mine
def LeapG (y : Int) : Prop := y % 4 = 0 ∧ (y % 100 ≠ 0 ∨ y % 400 = 0)
def LegalG (y m d : Int) : Prop := 0 < d ∧ ((m = 2 ∧ LeapG y ∧ d ≤ 29) ∨ (m = 2 ∧ ¬ LeapG y ∧ d ≤ 28) ∨ ((m = 4 ∨ m = 6 ∨ m = 9 ∨ m = 11) ∧ d ≤ 30) ∨ ((m ≠ 2 ∧ m ≠ 4 ∧ m ≠ 6 ∧ m ≠ 9 ∧ m ≠ 11) ∧ d ≤ 31))
def JGs (y m d v : Int) : Prop := ∃ k, (m ≤ 2 → k = 0) ∧ (2 < m → LeapG y → k = -1) ∧ (2 < m → ¬ LeapG y → k = -2) ∧
  v = 1721425 + 365 * (y - 1) + (y - 1) / 4 - (y - 1) / 100 + (y - 1) / 400 + ((367 * m - 362) / 12 + k + d)
def IsDate (jd y m d : Int) : Prop := 1 ≤ m ∧ m ≤ 12 ∧ LegalG y m d ∧ JGs y m d jd
/-- the days ahead of January 1 -/
def J0 (y : Int) : Int := 1721426 + 365 * (y - 1) + (y - 1) / 4 - (y - 1) / 100 + (y - 1) / 400
/-- the year's length, a month's length and its first day's place, by the leap year -/
def kOf (l : Bool) (m : Int) : Int := if m ≤ 2 then 0 else if l = true then -1 else -2
def lenOf (l : Bool) (m : Int) : Int := if m = 2 then (if l = true then 29 else 28) else if m = 4 ∨ m = 6 ∨ m = 9 ∨ m = 11 then 30 else 31
def staOf (l : Bool) (m : Int) : Int := (367 * m - 362) / 12 + kOf l m
theorem J0_is (y : Int) : 1721425 + 365 * (y - 1) + (y - 1) / 4 - (y - 1) / 100 + (y - 1) / 400 = J0 y - 1 := by unfold J0; omega
theorem leapB (y : Int) : ∃ l : Bool, l = true ↔ LeapG y := by
  by_cases h : LeapG y
  · exact ⟨true, by simp [h]⟩
  · exact ⟨false, by simp [h]⟩
theorem jgs_eq {y m d v : Int} {l : Bool} (hl : l = true ↔ LeapG y) (h : JGs y m d v) : v = J0 y - 1 + (staOf l m + d) := by
  obtain ⟨k, h1, h2, h3, h4⟩ := h
  rw [J0_is] at h4
  have : k = kOf l m := by
    unfold kOf
    split
    · rename_i h; exact h1 h
    · rename_i h
      have h : 2 < m := by omega
      split
      · rename_i h'; exact h2 h (hl.mp h')
      · rename_i h'; exact h3 h (fun x => h' (hl.mpr x))
  subst this
  exact h4
theorem jgs_mk {y m d v : Int} {l : Bool} (hl : l = true ↔ LeapG y) (h : v = J0 y - 1 + (staOf l m + d)) : JGs y m d v := by
  refine ⟨kOf l m, fun h => if_pos h, fun h h' => ?_, fun h h' => ?_, by rw [J0_is]; exact h⟩
  · unfold kOf; rw [if_neg (by omega), if_pos (hl.mpr h')]
  · unfold kOf; rw [if_neg (by omega), if_neg (fun x => h' (hl.mp x))]
theorem legal_mk {y m d : Int} {l : Bool} (hl : l = true ↔ LeapG y) (h0 : 0 < d) (h : d ≤ lenOf l m) : LegalG y m d := by
  refine ⟨h0, ?_⟩
  unfold lenOf at h
  split at h
  · rename_i e
    split at h
    · rename_i h'; exact .inl ⟨e, hl.mp h', h⟩
    · rename_i h'; exact .inr (.inl ⟨e, fun x => h' (hl.mpr x), h⟩)
  · rename_i e
    split at h
    · rename_i h'; exact .inr (.inr (.inl ⟨h', h⟩))
    · rename_i h'
      simp only [not_or] at h'
      exact .inr (.inr (.inr ⟨⟨e, h'⟩, h⟩))
theorem legal_eq {y m d : Int} {l : Bool} (hl : l = true ↔ LeapG y) (h : LegalG y m d) : 0 < d ∧ d ≤ lenOf l m := by
  obtain ⟨h0, h⟩ := h
  refine ⟨h0, ?_⟩
  unfold lenOf
  rcases h with ⟨e, h', h⟩ | ⟨e, h', h⟩ | ⟨e, h⟩ | ⟨⟨e1, e2⟩, h⟩
  · rw [if_pos e, if_pos (hl.mpr h')]; exact h
  · rw [if_pos e, if_neg (fun x => h' (hl.mp x))]; exact h
  · rw [if_neg (by rcases e with e | e | e | e <;> (subst e; decide)), if_pos e]; exact h
  · rw [if_neg e1, if_neg (by simp only [not_or]; exact e2)]; exact h
theorem jgs_jan {y v : Int} (h : JGs y 1 1 v) : v = J0 y := by
  obtain ⟨k, h1, _, _, h4⟩ := h
  have := h1 (by omega)
  unfold J0; omega
theorem year_fin {jd v7 v6 v5 v4 v3 v2 v1 Y : Int} (h7 : v7 = (jd - 1721426) / 146097) (h6 : v6 = (jd - 1721426) % 146097) (h5 : v5 = v6 / 36524) (h4 : v4 = v6 % 36524)
    (h3 : v3 = v4 / 1461) (h2 : v2 = v4 % 1461) (h1 : v1 = v2 / 365) (hY : ((v5 = 4 ∨ v1 = 4) ∧ Y = v7 * 400 + v5 * 100 + v3 * 4 + v1) ∨ (v5 ≠ 4 ∧ v1 ≠ 4 ∧ Y = v7 * 400 + v5 * 100 + v3 * 4 + v1 + 1)) :
    0 ≤ jd - J0 Y ∧ jd - J0 Y ≤ 365 ∧ (jd - J0 Y = 365 → LeapG Y) := by
  have a1 : jd - 1721426 = 146097 * v7 + v6 ∧ 0 ≤ v6 ∧ v6 < 146097 := by omega
  have a2 : v6 = 36524 * v5 + v4 ∧ 0 ≤ v4 ∧ v4 < 36524 := by omega
  have a3 : v4 = 1461 * v3 + v2 ∧ 0 ≤ v2 ∧ v2 < 1461 := by omega
  have a4 : 365 * v1 ≤ v2 ∧ v2 < 365 * v1 + 365 := by omega
  clear h7 h6 h5 h4 h3 h2 h1
  unfold J0 LeapG
  rcases hY with ⟨hc | hc, hY⟩ | ⟨hc1, hc2, hY⟩
  · have : v4 = 0 ∧ v3 = 0 ∧ v1 = 0 := by omega
    have e1 : (Y - 1) / 4 = 100 * v7 + 99 := by omega
    have e2 : (Y - 1) / 100 = 4 * v7 + 3 := by omega
    have e3 : (Y - 1) / 400 = v7 := by omega
    omega
  · have b : v2 = 1460 ∧ v3 ≤ 23 ∧ 0 ≤ v3 ∧ 0 ≤ v5 ∧ v5 ≤ 3 := by omega
    have e1 : (Y - 1) / 4 = 100 * v7 + 25 * v5 + v3 := by omega
    have e2 : (Y - 1) / 100 = 4 * v7 + v5 := by omega
    have e3 : (Y - 1) / 400 = v7 := by omega
    omega
  · have b : v1 ≤ 3 ∧ 0 ≤ v1 ∧ v3 ≤ 24 ∧ 0 ≤ v3 ∧ 0 ≤ v5 ∧ v5 ≤ 3 := by omega
    have e1 : (Y - 1) / 4 = 100 * v7 + 25 * v5 + v3 := by omega
    have e2 : (Y - 1) / 100 = 4 * v7 + v5 := by omega
    have e3 : (Y - 1) / 400 = v7 := by omega
    rw [e1, e2, e3]
    omega
def AdjOk (Y jd j1 adj : Int) : Prop := (LeapG Y ∧ jd - j1 < 59 ∧ adj = 0) ∨ (LeapG Y ∧ ¬ jd - j1 < 59 ∧ adj = 1) ∨ (¬ LeapG Y ∧ jd - j1 < 58 ∧ adj = 0) ∨ (¬ LeapG Y ∧ ¬ jd - j1 < 58 ∧ adj = 2)
theorem adj1 {Y jd j1 : Int} (h : LeapG Y) (h2 : jd - j1 < 58 + (if true = true then 1 else 0)) : AdjOk Y jd j1 0 := .inl ⟨h, by simp only [if_true] at h2; omega, rfl⟩
theorem adj2 {Y jd j1 : Int} (h : LeapG Y) (h2 : ¬ jd - j1 < 58 + (if true = true then 1 else 0)) : AdjOk Y jd j1 1 := .inr (.inl ⟨h, by simp only [if_true] at h2; omega, rfl⟩)
theorem adj3 {Y jd j1 : Int} (h : ¬ LeapG Y) (h2 : jd - j1 < 58 + (if false = true then 1 else 0)) : AdjOk Y jd j1 0 := .inr (.inr (.inl ⟨h, by simp only [Bool.false_eq_true, if_false] at h2; omega, rfl⟩))
theorem adj4 {Y jd j1 : Int} (h : ¬ LeapG Y) (h2 : ¬ jd - j1 < 58 + (if false = true then 1 else 0)) : AdjOk Y jd j1 2 := .inr (.inr (.inr ⟨h, by simp only [Bool.false_eq_true, if_false] at h2; omega, rfl⟩))
def adjT (l : Bool) (n : Int) : Int := if l = true then (if n < 59 then 0 else 1) else (if n < 58 then 0 else 2)
def moT (l : Bool) (n : Int) : Int := ((n + adjT l n) * 12 + 373) / 367
theorem tabT : ∀ l : Bool, ∀ n : Fin 366, (l = false → n.val < 365) → 1 ≤ moT l (n.val : Int) ∧ moT l (n.val : Int) ≤ 12 ∧ 0 < (n.val : Int) + 1 - staOf l (moT l (n.val : Int)) ∧ (n.val : Int) + 1 - staOf l (moT l (n.val : Int)) ≤ lenOf l (moT l (n.val : Int)) := by decide +kernel
theorem fromJd_fin {jd Y j1 j2 mo adj : Int} (hy : 0 ≤ jd - J0 Y ∧ jd - J0 Y ≤ 365 ∧ (jd - J0 Y = 365 → LeapG Y)) (hj1 : JGs Y 1 1 j1)
    (ha : AdjOk Y jd j1 adj)
    (hm : mo = ((jd - j1 + adj) * 12 + 373) / 367) (hj2 : JGs Y mo 1 j2) : IsDate jd Y mo (jd - j2 + 1) := by
  have e1 := jgs_jan hj1
  subst e1
  obtain ⟨l, hl⟩ := leapB Y
  obtain ⟨y1, y2, y3⟩ := hy
  obtain ⟨n, hn⟩ : ∃ n : Nat, (n : Int) = jd - J0 Y := ⟨(jd - J0 Y).toNat, Int.toNat_of_nonneg y1⟩
  have hadj : adj = adjT l (n : Int) := by
    rw [hn]
    unfold adjT
    rcases ha with ⟨a, b, c⟩ | ⟨a, b, c⟩ | ⟨a, b, c⟩ | ⟨a, b, c⟩
    · rw [if_pos (hl.mpr a), if_pos b]; exact c
    · rw [if_pos (hl.mpr a), if_neg b]; exact c
    · rw [if_neg (fun x => a (hl.mp x)), if_pos b]; exact c
    · rw [if_neg (fun x => a (hl.mp x)), if_neg b]; exact c
  rw [← hn] at y2 y3 hm
  subst hadj
  have hmo : mo = moT l (n : Int) := hm
  clear hm ha
  have lt : n < 366 := by omega
  have t := tabT l ⟨n, lt⟩ (fun hf => by
    rcases Nat.lt_or_ge n 365 with h | h
    · exact h
    · have : l = true := hl.mpr (y3 (by omega))
      rw [hf] at this; cases this)
  simp only at t
  rw [← hmo] at t
  obtain ⟨t1, t2, t3, t4⟩ := t
  have e2 := jgs_eq hl hj2
  have ed : jd - j2 + 1 = (n : Int) + 1 - staOf l mo := by omega
  rw [ed]
  exact ⟨t1, t2, legal_mk hl t3 t4, jgs_mk hl (by omega)⟩
def sizesOf (b : Bool) : List Int := [31, if b = true then 29 else 28, 31, 30, 31, 30, 31, 31, 30, 31, 30, 31]
/-- the law's day count: the year by hundreds, fours and ones -/
theorem lawG_year {jd q r y0 y1 y2 y3 r1 r2 r3 q1 q2 q3 : Int} (hq : q = (jd - 1721426) / 146097) (hr : r = (jd - 1721426) % 146097) (hy0 : y0 = 400 * q + 1)
    (e1 : y1 = y0 + 100 * q1) (f1 : r1 = r - 36524 * q1) (a1 : 0 ≤ q1) (b1 : q1 ≤ 3) (c1 : 0 ≤ r1) (d1 : q1 < 3 → r1 < 36524)
    (e2 : y2 = y1 + 4 * q2) (f2 : r2 = r1 - 1461 * q2) (a2 : 0 ≤ q2) (b2 : q2 ≤ 24) (c2 : 0 ≤ r2) (d2 : q2 < 24 → r2 < 1461)
    (e3 : y3 = y2 + 1 * q3) (f3 : r3 = r2 - 365 * q3) (a3 : 0 ≤ q3) (b3 : q3 ≤ 3) (c3 : 0 ≤ r3) (d3 : q3 < 3 → r3 < 365) :
    r3 = jd - J0 y3 ∧ r3 ≤ 365 ∧ (r3 = 365 → LeapG y3) := by
  have h1 : (y3 - 1) / 4 = 100 * q + 25 * q1 + q2 := by omega
  have h2 : (y3 - 1) / 100 = 4 * q + q1 := by omega
  have h3 : (y3 - 1) / 400 = q := by omega
  refine ⟨?_, ?_, ?_⟩
  · unfold J0; rw [h1, h2, h3]; omega
  · omega
  · intro h; unfold LeapG; omega
theorem tabS : ∀ b : Bool, ∀ i : Fin 12, ((sizesOf b).take i.val).sum = staOf b (1 + (i.val : Int)) ∧ (sizesOf b)[i.val]? = some (lenOf b (1 + (i.val : Int))) := by decide +kernel
theorem tabE : ∀ b : Bool, ((sizesOf b).take (sizesOf b).length).sum = if b = true then 366 else 365 := by decide +kernel
theorem lawG_fin {jd y3 r3 mo r k : Int} {b : Bool} {i : Nat} (hy : r3 = jd - J0 y3 ∧ r3 ≤ 365 ∧ (r3 = 365 → LeapG y3)) (hl : (LeapG y3 ∧ b = true) ∨ (¬ LeapG y3 ∧ b = false))
    (hk : (sizesOf b)[i]? = some k) (hm : mo = 1 + (i : Int)) (hr : r = r3 - ((sizesOf b).take i).sum) (h0 : 0 ≤ r) (hlt : r < k) : IsDate jd y3 mo (r + 1) := by
  obtain ⟨h1, h2, h3⟩ := hy
  have hi : i < 12 := by
    have := (List.getElem?_eq_some_iff.mp hk).1
    simpa [sizesOf] using this
  have hb : b = true ↔ LeapG y3 := by
    rcases hl with ⟨a, rfl⟩ | ⟨a, rfl⟩
    · simp [a]
    · simp [a]
  obtain ⟨t1, t2⟩ := tabS b ⟨i, hi⟩
  simp only at t1 t2
  rw [t2] at hk
  have ek := Option.some.inj hk
  rw [t1, ← hm] at hr
  rw [← hm] at ek
  clear t1 t2 hk
  refine ⟨by omega, by omega, legal_mk hb (by omega) (by omega), jgs_mk hb (by omega)⟩
theorem lawG_no {jd y3 r3 r : Int} {b : Bool} (hy : r3 = jd - J0 y3 ∧ r3 ≤ 365 ∧ (r3 = 365 → LeapG y3)) (hl : (LeapG y3 ∧ b = true) ∨ (¬ LeapG y3 ∧ b = false))
    (hr : r = r3 - ((sizesOf b).take (sizesOf b).length).sum) (h0 : 0 ≤ r) : False := by
  obtain ⟨h1, h2, h3⟩ := hy
  rw [tabE] at hr
  rcases hl with ⟨hl, rfl⟩ | ⟨hl, rfl⟩
  · simp only [if_true] at hr; omega
  · have hne : r3 ≠ 365 := fun h => hl (h3 h)
    simp only [Bool.false_eq_true, if_false] at hr; omega
def EpA (h : Int) : Int := h - h / 4 - 12
def EpB (h : Int) : Int := (h - (h - 17) / 25) / 3 - 5
def PastOk (year p : Int) : Prop := ∃ e e' : Int, e = (1 + 11 * (year % 19) - EpA (year / 100) + EpB (year / 100)) % 30 ∧
  (((e = 24 ∨ (e = 25 ∧ 11 < year % 19 + 1)) ∧ e' = e + 1) ∨ (¬ (e = 24 ∨ (e = 25 ∧ 11 < year % 19 + 1)) ∧ e' = e)) ∧ ((44 - e' < 21 ∧ p = 44 - e' + 30) ∨ (¬ 44 - e' < 21 ∧ p = 44 - e'))
theorem epA1 {h : Int} (hne : (h + 1) % 4 ≠ 0) : EpA (h + 1) = EpA h + 1 := by unfold EpA; omega
theorem epA0 {h : Int} (he : (h + 1) % 4 = 0) : EpA (h + 1) = EpA h := by unfold EpA; omega
theorem epB1 {h d g : Int} (hh : h = 25 * d + 17 + 3 * g) (g0 : 0 ≤ g) (g1 : g ≤ 7) : EpB (h + 1) = EpB h + 1 := by
  have a : (h - 17) / 25 = d := by omega
  have b : (h + 1 - 17) / 25 = d := by omega
  unfold EpB
  rw [a, b]
  have e1 : (h - d) / 3 = 8 * d + g + 5 := by omega
  have e2 : (h + 1 - d) / 3 = 8 * d + g + 6 := by omega
  rw [e1, e2]; omega
theorem epB0 {h d g u : Int} (hh : h = 25 * d + 17 + u) (hu : u = 3 * g + 1 ∨ u = 3 * g + 2) (g0 : 0 ≤ g) (g1 : g ≤ 7) : EpB (h + 1) = EpB h := by
  have a : (h - 17) / 25 = d := by omega
  have b : (h + 1 - 17) / 25 = d := by omega
  unfold EpB
  rw [a, b]
  have e1 : (h + 1 - d) / 3 = 8 * d + g + 6 := by omega
  have e2 : (h - d) / 3 = 8 * d + g + 6 := by omega
  rw [e1, e2]
theorem epB24 {h d : Int} (hh : h = 25 * d + 41) : EpB (h + 1) = EpB h := by
  have a : (h - 17) / 25 = d := by omega
  have b : (h + 1 - 17) / 25 = d + 1 := by omega
  unfold EpB
  rw [a, b, hh]; congr 2; omega
theorem epB_in {h u : Int} (hu : u = (h + 1 - 18) % 25) (hin : u = 0 ∨ u = 3 ∨ u = 6 ∨ u = 9 ∨ u = 12 ∨ u = 15 ∨ u = 18 ∨ u = 21) : EpB (h + 1) = EpB h + 1 := by
  have hg : ∃ g : Int, u = 3 * g ∧ 0 ≤ g ∧ g ≤ 7 := by
    rcases hin with h | h | h | h | h | h | h | h
    · exact ⟨0, h, by decide, by decide⟩
    · exact ⟨1, h, by decide, by decide⟩
    · exact ⟨2, h, by decide, by decide⟩
    · exact ⟨3, h, by decide, by decide⟩
    · exact ⟨4, h, by decide, by decide⟩
    · exact ⟨5, h, by decide, by decide⟩
    · exact ⟨6, h, by decide, by decide⟩
    · exact ⟨7, h, by decide, by decide⟩
  clear hin
  obtain ⟨g, h1, h2, h3⟩ := hg
  exact epB1 (d := (h + 1 - 18) / 25) (g := g) (by omega) h2 h3
theorem epB_out {h u : Int} (hu : u = (h + 1 - 18) % 25) (hin : ¬ (u = 0 ∨ u = 3 ∨ u = 6 ∨ u = 9 ∨ u = 12 ∨ u = 15 ∨ u = 18 ∨ u = 21)) : EpB (h + 1) = EpB h := by
  have hd : h = 25 * ((h + 1 - 18) / 25) + 17 + u := by omega
  have hr : 0 ≤ u ∧ u < 25 := by omega
  have h3 : u % 3 ≠ 0 ∨ u = 24 := by
    by_cases h24 : u = 24
    · exact .inr h24
    · refine .inl fun h0 => hin ?_
      obtain ⟨g, hg⟩ : ∃ g : Int, u = 3 * g := ⟨u / 3, by omega⟩
      have : g = 0 ∨ g = 1 ∨ g = 2 ∨ g = 3 ∨ g = 4 ∨ g = 5 ∨ g = 6 ∨ g = 7 := by omega
      rcases this with e | e | e | e | e | e | e | e <;> (subst e; subst hg; decide)
  clear hin hu
  rcases h3 with h3 | h3
  · exact epB0 (g := u / 3) hd (by omega) (by omega) (by omega)
  · subst h3
    exact epB24 (d := (h + 1 - 18) / 25) (by omega)
theorem ep_step1 {e e0 h v u : Int} (he : e = e0 - EpA h + EpB h) (hv : v = (h + 1) % 4) (hne : v ≠ 0) (hu : u = (h + 1 - 18) % 25) (hin : u = 0 ∨ u = 3 ∨ u = 6 ∨ u = 9 ∨ u = 12 ∨ u = 15 ∨ u = 18 ∨ u = 21) : e - 1 + 1 = e0 - EpA (h + 1) + EpB (h + 1) := by
  rw [epB_in hu hin, epA1 (hv ▸ hne), he]; clear hin; omega
theorem ep_step2 {e e0 h v u : Int} (he : e = e0 - EpA h + EpB h) (hv : v = (h + 1) % 4) (hne : v ≠ 0) (hu : u = (h + 1 - 18) % 25) (hin : ¬ (u = 0 ∨ u = 3 ∨ u = 6 ∨ u = 9 ∨ u = 12 ∨ u = 15 ∨ u = 18 ∨ u = 21)) : e - 1 = e0 - EpA (h + 1) + EpB (h + 1) := by
  rw [epB_out hu hin, epA1 (hv ▸ hne), he]; clear hin; omega
theorem ep_step3 {e e0 h v u : Int} (he : e = e0 - EpA h + EpB h) (hv : v = (h + 1) % 4) (hne : v = 0) (hu : u = (h + 1 - 18) % 25) (hin : u = 0 ∨ u = 3 ∨ u = 6 ∨ u = 9 ∨ u = 12 ∨ u = 15 ∨ u = 18 ∨ u = 21) : e + 1 = e0 - EpA (h + 1) + EpB (h + 1) := by
  rw [epB_in hu hin, epA0 (hv ▸ hne), he]; clear hin; omega
theorem ep_step4 {e e0 h v u : Int} (he : e = e0 - EpA h + EpB h) (hv : v = (h + 1) % 4) (hne : v = 0) (hu : u = (h + 1 - 18) % 25) (hin : ¬ (u = 0 ∨ u = 3 ∨ u = 6 ∨ u = 9 ∨ u = 12 ∨ u = 15 ∨ u = 18 ∨ u = 21)) : e = e0 - EpA (h + 1) + EpB (h + 1) := by
  rw [epB_out hu hin, epA0 (hv ▸ hne), he]
theorem ep_end {c : Int} (h : 15 ≤ c) : EpA (16 + ((c + 1 - 17).toNat : Int)) = EpA c ∧ EpB (16 + ((c + 1 - 17).toNat : Int)) = EpB c := by
  unfold EpA EpB
  by_cases h15 : c = 15
  · subst h15; decide
  · have : ((c + 1 - 17).toNat : Int) = c - 16 := by omega
    rw [this]; constructor <;> congr 1 <;> omega
theorem march_lin {y c b : Int} (hc : c = y / 100) (hb : (LeapG y ∧ b = 60) ∨ (¬ LeapG y ∧ b = 59)) : J0 y + b = 1721120 + 365 * y + y / 4 - c + c / 4 := by
  subst hc
  have h4 : (y - 1) / 4 = y / 4 - (if y % 4 = 0 then 1 else 0) := by split <;> omega
  have h100 : (y - 1) / 100 = y / 100 - (if y % 100 = 0 then 1 else 0) := by split <;> omega
  have h400 : (y - 1) / 400 = y / 100 / 4 - (if y % 400 = 0 then 1 else 0) := by split <;> omega
  unfold J0 LeapG at *
  rw [h4, h100, h400]
  split <;> split <;> split <;> omega
/-- Sunday and date, from the days behind March 21 -/
theorem west_date {y c i2 j0 t7 L t44 m4 mo d : Int} (hc : c = y / 100) (hi : 0 ≤ i2 ∧ i2 ≤ 28) (hj0 : j0 = y + y / 4 + i2 + 2 - c + c / 4) (ht7 : t7 = j0 / 7) (hL : L = i2 - (j0 - 7 * t7))
    (h44 : t44 = (L + 40) / 44) (hmo : mo = 3 + t44) (hm4 : m4 = mo / 4) (hd : d = L + 28 - 31 * m4) {b : Int} (hb : (LeapG y ∧ b = 60) ∨ (¬ LeapG y ∧ b = 59)) :
    ∃ s, (J0 y + b + (i2 + 21) - 1 < s ∧ s ≤ J0 y + b + (i2 + 21) - 1 + 7 ∧ s % 7 = 6) ∧ IsDate s y mo d := by
  have hM := march_lin hc hb
  refine ⟨J0 y + b + L + 27, ⟨by omega, by omega, by omega⟩, ?_⟩
  have hJ : 1721425 + 365 * (y - 1) + (y - 1) / 4 - (y - 1) / 100 + (y - 1) / 400 = J0 y - 1 := by unfold J0; omega
  have hLr : -6 ≤ L ∧ L ≤ 28 := by omega
  unfold IsDate LegalG JGs
  rw [hJ]
  clear hM hJ hj0 ht7 hc
  have hcase : (L ≤ 3 ∧ t44 = 0 ∧ m4 = 0) ∨ (3 < L ∧ t44 = 1 ∧ m4 = 1) := by omega
  rcases hb with ⟨hl, rfl⟩ | ⟨hl, rfl⟩
  · simp only [hl, true_and, not_true_eq_false, false_and, and_false, false_or, or_false, forall_const, false_implies, true_implies, implies_true, and_true]
    refine ⟨by omega, by omega, by omega, -1, by omega, by omega, ?_⟩
    rcases hcase with ⟨h1, h2, h3⟩ | ⟨h1, h2, h3⟩ <;> subst h2 <;> subst hmo <;> omega
  · simp only [hl, true_and, not_false_eq_true, false_and, and_false, false_or, or_false, forall_const, false_implies, true_implies, implies_true, and_true]
    refine ⟨by omega, by omega, by omega, -2, by omega, by omega, ?_⟩
    rcases hcase with ⟨h1, h2, h3⟩ | ⟨h1, h2, h3⟩ <;> subst h2 <;> subst hmo <;> omega
theorem west_epact {y c q k a4 t3 t30 i0 i1 : Int} (hlo : 1583 ≤ y) (hc : c = y / 100) (hq : q = y / 19) (hk : (0 ≤ c - 17 → k = (c - 17) / 25) ∧ (c - 17 < 0 → k = -(-(c - 17) / 25)))
    (h4 : a4 = c / 4) (h3 : t3 = (c - k) / 3) (h0 : i0 = c - a4 - t3 + 19 * (y - 19 * q) + 15) (h30 : t30 = i0 / 30) (h1 : i1 = i0 - 30 * t30) :
    ∃ e, e = (1 + 11 * (y % 19) - EpA (y / 100) + EpB (y / 100)) % 30 ∧ ((e ≤ 23 ∧ i1 = 23 - e) ∨ (23 < e ∧ i1 = 53 - e)) ∧ 0 ≤ e ∧ e < 30 := by
  rw [← hc]
  have hA : EpA c = c - a4 - 12 := by unfold EpA; omega
  have hB : EpB c = t3 - 5 := by
    unfold EpB
    by_cases h17 : c < 17
    · have : c = 15 ∨ c = 16 := by omega
      rcases this with h | h <;> subst h <;> omega
    · have : k = (c - 17) / 25 := hk.1 (by omega)
      rw [h3, this]
  have hn : y % 19 = y - 19 * q := by omega
  refine ⟨_, rfl, ?_⟩
  rw [hA, hB, hn]
  omega
theorem west_past {y e i1 i2 t28 t28b t29 t11 : Int} (he : e = (1 + 11 * (y % 19) - EpA (y / 100) + EpB (y / 100)) % 30) (hi : (e ≤ 23 ∧ i1 = 23 - e) ∨ (23 < e ∧ i1 = 53 - e)) (h0 : 0 ≤ e ∧ e < 30)
    (h28 : t28 = i1 / 28) (h28b : t28b = i1 / 28) (h29 : t29 = 29 / (i1 + 1)) (h11 : t11 = (21 - y % 19) / 11) (h2 : i2 = i1 - t28 * (1 - t28b * t29 * t11)) : 0 ≤ i2 ∧ i2 ≤ 28 ∧ PastOk y (i2 + 21) := by
  have hn : 0 ≤ y % 19 ∧ y % 19 < 19 := by omega
  by_cases h24 : e = 24
  · have a : i1 = 29 := by omega
    subst a
    have b1 : t28 = 1 := by omega
    have b2 : t29 = 0 := by omega
    rw [b1, b2] at h2
    simp at h2
    refine ⟨by omega, by omega, e, e + 1, he, .inl ⟨.inl h24, rfl⟩, by omega⟩
  · by_cases h25 : e = 25
    · have a : i1 = 28 := by omega
      subst a
      have b1 : t28 = 1 := by omega
      have b3 : t28b = 1 := by omega
      have b2 : t29 = 1 := by omega
      rw [b1, b2, b3] at h2
      simp at h2
      by_cases hg : 11 < y % 19 + 1
      · exact ⟨by omega, by omega, e, e + 1, he, .inl ⟨.inr ⟨h25, hg⟩, rfl⟩, by omega⟩
      · exact ⟨by omega, by omega, e, e, he, .inr ⟨by omega, rfl⟩, by omega⟩
    · have b1 : t28 = 0 := by omega
      rw [b1] at h2
      simp at h2
      exact ⟨by omega, by omega, e, e, he, .inr ⟨by omega, rfl⟩, by omega⟩
def SunB (jd v : Int) : Prop := jd < v ∧ v ≤ jd + 7 ∧ v % 7 = 6
def JMar (y : Int) : Int := 1721118 + 365 * y + y / 4
def OldOk (y later s : Int) : Prop := SunB (JMar y + ((19 * (y % 19) + 15) % 30 + 21) - 1 + later) s
def OldF (y later yy mm dd : Int) : Prop := ∃ s, OldOk y later s ∧ IsDate s yy mm dd
def EJ (y later m d : Int) : Prop := ∃ d0 e : Int, d0 = (19 * (y % 19) + 15) % 30 + later ∧ e = (2 * (y % 4) + 4 * (y % 7) - d0 + 6) % 7 ∧ m = (113 + d0 + e + 1) / 31 ∧ d = (113 + d0 + e + 1) % 31 + 1 ∧ 0 ≤ d0 ∧ d0 ≤ 29
theorem ej_facts {y later m d : Int} (h : EJ y later m d) : 0 < d ∧ 2 < m ∧ (m = 3 ∧ d ≤ 31 ∨ m = 4 ∧ d ≤ 30) := by
  obtain ⟨d0, e, h1, h2, h3, h4, h5, h6⟩ := h
  omega
theorem old_fin {y later m d : Int} (h : EJ y later m d) : OldOk y later (1461 * (y + 4716) / 4 + 306001 * (m + 1) / 10000 + d - 1524) := by
  obtain ⟨d0, e, h1, h2, h3, h4, h5, h6⟩ := h
  have hX : 1461 * (y + 4716) / 4 = 365 * y + y / 4 + 1722519 := by omega
  have he : 0 ≤ e ∧ e < 7 := by omega
  have hs : 306001 * (m + 1) / 10000 + d = d0 + e + 144 := by
    have : m = 3 ∨ m = 4 := by omega
    rcases this with hm | hm <;> subst hm <;> omega
  have hval : 1461 * (y + 4716) / 4 + 306001 * (m + 1) / 10000 + d - 1524 = 365 * y + y / 4 + 1721139 + d0 + e := by omega
  unfold OldOk SunB JMar
  rw [hval]
  refine ⟨by omega, by omega, ?_⟩
  clear hval hs hX h3 h4
  omega
theorem moonT : ∀ i : Fin 19, ([36, 25, 44, 33, 22, 41, 30, 49, 38, 27, 46, 35, 24, 43, 32, 21, 40, 29, 48] : List Int).getD i.val 0 = (19 * (i.val : Int) + 15) % 30 + 21 := by decide +kernel
theorem moon_fin {y v : Int} (h : v = y % 19) : ([36, 25, 44, 33, 22, 41, 30, 49, 38, 27, 46, 35, 24, 43, 32, 21, 40, 29, 48] : List Int).getD v.toNat 0 = (19 * (y % 19) + 15) % 30 + 21 := by
  rw [← h]
  obtain ⟨n, hn⟩ : ∃ n : Nat, v = (n : Int) := ⟨v.toNat, by omega⟩
  have lt : n < 19 := by omega
  subst hn
  exact moonT ⟨n, lt⟩
theorem J0_mono {y y' : Int} (h : y < y') : J0 (y + 1) ≤ J0 y' := by
  unfold J0; omega
theorem J0_leap {y : Int} (h : LeapG y) : J0 (y + 1) = J0 y + 366 := by
  unfold J0 LeapG at *; omega
theorem J0_plain {y : Int} (h : ¬ LeapG y) : J0 (y + 1) = J0 y + 365 := by
  unfold J0 LeapG at *; omega
theorem tabD : ∀ l : Bool, ∀ i : Fin 12, 0 ≤ staOf l (1 + (i.val : Int)) ∧ staOf l (1 + (i.val : Int)) + lenOf l (1 + (i.val : Int)) ≤ (if l = true then 366 else 365) ∧ ∀ j : Fin 12, i.val < j.val → staOf l (1 + (i.val : Int)) + lenOf l (1 + (i.val : Int)) ≤ staOf l (1 + (j.val : Int)) := by decide +kernel
theorem month_in {m : Int} (h1 : 1 ≤ m) (h2 : m ≤ 12) : ∃ i : Fin 12, m = 1 + (i.val : Int) := ⟨⟨(m - 1).toNat, by omega⟩, by simp only; omega⟩
theorem date_year {s y m d : Int} (h : IsDate s y m d) : J0 y ≤ s ∧ s < J0 (y + 1) := by
  obtain ⟨m1, m2, hd, hj⟩ := h
  obtain ⟨l, hl⟩ := leapB y
  have e := jgs_eq hl hj
  have f := legal_eq hl hd
  obtain ⟨i, rfl⟩ := month_in m1 m2
  obtain ⟨t1, t2, _⟩ := tabD l i
  have e2 : J0 (y + 1) = J0 y + (if l = true then 366 else 365) := by
    split
    · rename_i h; exact J0_leap (hl.mp h)
    · rename_i h; exact J0_plain (fun x => h (hl.mpr x))
  rw [e2]
  clear e2 hl hd hj
  omega
theorem date_lt {s y m d m' d' : Int} (h : IsDate s y m d) (h' : IsDate s y m' d') : ¬ m < m' := by
  intro hlt
  obtain ⟨m1, m2, hd, hj⟩ := h
  obtain ⟨n1, n2, hd', hj'⟩ := h'
  obtain ⟨l, hl⟩ := leapB y
  have e := jgs_eq hl hj
  have f := legal_eq hl hd
  have e' := jgs_eq hl hj'
  have f' := legal_eq hl hd'
  obtain ⟨i, rfl⟩ := month_in m1 m2
  obtain ⟨j, rfl⟩ := month_in n1 n2
  have t := (tabD l i).2.2 j (by omega)
  clear hl hd hj hd' hj' m1 m2 n1 n2
  omega
theorem date_unique {s y m d y' m' d' : Int} (h : IsDate s y m d) (h' : IsDate s y' m' d') : y = y' ∧ m = m' ∧ d = d' := by
  have a := date_year h
  have b := date_year h'
  have hy : y = y' := by
    rcases Int.lt_trichotomy y y' with x | x | x
    · have := J0_mono x; omega
    · exact x
    · have := J0_mono x; omega
  subst hy
  have hm : m = m' := by
    have c1 := date_lt h h'
    have c2 := date_lt h' h
    omega
  subst hm
  obtain ⟨l, hl⟩ := leapB y
  have e := jgs_eq hl h.2.2.2
  have e' := jgs_eq hl h'.2.2.2
  exact ⟨rfl, rfl, by omega⟩
theorem past_unique {y p p' : Int} (h : PastOk y p) (h' : PastOk y p') : p = p' := by
  obtain ⟨e, x, he, hx, hp⟩ := h
  obtain ⟨e', x', he', hx', hp'⟩ := h'
  rw [← he] at he'
  subst he'
  clear he
  have hxx : x = x' := by
    rcases hx with ⟨a, b⟩ | ⟨a, b⟩ <;> rcases hx' with ⟨c, d⟩ | ⟨c, d⟩
    · rw [b, d]
    · exact absurd a c
    · exact absurd c a
    · rw [b, d]
  subst hxx
  clear hx hx'
  rcases hp with ⟨a, b⟩ | ⟨a, b⟩ <;> rcases hp' with ⟨c, d⟩ | ⟨c, d⟩
  · rw [b, d]
  · exact absurd a c
  · exact absurd c a
  · rw [b, d]
theorem sun_unique {j v v' : Int} (h : SunB j v) (h' : SunB j v') : v = v' := by
  unfold SunB at *; omega
end Mine
namespace Mine
def keepAt : List Nat → List Stmt → List Stmt
  | [], _ => []
  | i :: r, l => match l[i]? with
    | some x => x :: keepAt r l
    | none => keepAt r l
def tops : List Nat := [1, 2, 4, 5, 6, 7, 8, 9, 10, 11, 12, 14, 16, 17, 19, 20, 21, 22, 23, 24, 25, 26, 29, 32, 33, 34, 35, 36, 37, 38, 39, 40, 41, 42, 43]
def vw : Program := { PySem.Challenge.pw_ja0023_01 with main := { PySem.Challenge.pw_ja0023_01.main with body := keepAt tops PySem.Challenge.pw_ja0023_01.main.body } }
local macro_rules | `(tactic| o_head $H:term) => `(tactic| (
  refine PySem.W.holds_open (q := Mine.vw) (loose := [Str.ofString "legal_date_gregorian", Str.ofString "to_jd_gregorian", Str.ofString "legal_date_julian", Str.ofString "to_jd_julian", Str.ofString "easter", Str.ofString "_easter_julian"]) (Xt := fun s => xlAt Mine.vw [] s && recOk (RowW.records (OpenRow.toRowW (OpenLaw.row PySem.Challenge.rw_ja0023_01))) s) (XP := XL Mine.vw []) (Yf := Hook.obs $H) (Ya := Hook.val $H) (YP := Hook.says $H) (N := 2104) ?hl (Hook.of $H) (Hook.keeps $H) (fun s e => xl_of s (Bool.and_eq_true_iff.mp e).1) XL.keeps (by rfl) (by rfl) (by rfl) (fun s e => recFacts_of (Bool.and_eq_true_iff.mp e).2) (by rfl) (by first | assumption | decide +kernel) (by decide +kernel) ⟨rfl, rfl, rfl, rfl, rfl, by decide +kernel⟩ ?hw ?hc
  (case hl => intro w; kernel_rfl)))
set_option maxRecDepth 100000 in
set_option maxHeartbeats 8000000 in
open_top hd for PySem.Challenge.rw_ja0023_01
end Mine
namespace Mine
/-- the top's facts, for this program -/
abbrev TopM (mean : ExcName → Option Value) (mg mb : Str → Option Value) (h : Heap) : Prop :=
  Top Mine.vw (looseW Mine.vw
      [Str.ofString "legal_date_gregorian", Str.ofString "to_jd_gregorian", Str.ofString "legal_date_julian",
        Str.ofString "to_jd_julian", Str.ofString "easter", Str.ofString "_easter_julian"]) mean mg mb h
/-- what a call asks of the caller's frame, and how it comes back (Ret: the value, the ledger's new objects) -/
def CallsTo (D : Nat) (f : Addr) (vs : List Value) (Ret : (List (Addr × Obj)) → Value → Prop) : Prop :=
  ∀ (w : World) (mean : ExcName → Option Value) (mg mb : Str → Option Value) (dp un : Nat) (gd : Option (List Code)) (cn : Str) (cs : Scope) (a : Addr) (ccd : Value) (cl : List (Str × Addr)) (outer : List Env) (A₀ : Around) (base h₀ : Heap) (L : Addr) (m : Str → Option Value) (news : List (Addr × Obj)) (s : Shared) (Q E : Value → Shared → Prop),
    Below A₀ base outer h₀ → Fr h₀ L s.heap m → (Mine.hd.heap_39 w.params).In h₀ → News h₀ L s.heap news → TopM mean mg mb h₀ → cs.kind = .function →
    dp + D < recursionLimit → un + 8 * D < cLine →
    (∀ (nw : List (Addr × Obj)) (v : Value) (h' : Heap) (tk' : Nat), Ret nw v → Fr h₀ L h' m → News h₀ L h' (nw ++ news) → Q v { s with heap := h', toks := tk' }) →
    wpAny (model PySem.Challenge.rw_ja0023_01.row.prog w) (ktrTop dp un gd cn cs L a ccd cl outer) (call (.ref f) vs) Q E s
theorem calls_use {D : Nat} {f : Addr} {vs : List Value} {Ret : (List (Addr × Obj)) → Value → Prop} (C : CallsTo D f vs Ret)
    {w : World} {mean : ExcName → Option Value} {mg mb : Str → Option Value} {dp un : Nat} {gd : Option (List Code)} {cn : Str} {cs : Scope} {a : Addr} {ccd : Value} {cl : List (Str × Addr)} {outer : List Env} {A₀ : Around} {base h₀ : Heap} {L : Addr} {m : Str → Option Value} {news : List (Addr × Obj)} {s : Shared} {Q E : Value → Shared → Prop}
    (B : Below A₀ base outer h₀) (F : Fr h₀ L s.heap m) (X : (Mine.hd.heap_39 w.params).In h₀) (N : News h₀ L s.heap news) (T : TopM mean mg mb h₀) (hk : cs.kind = .function)
    (hd : dp + D < recursionLimit) (hu : un + 8 * D < cLine)
    (ret : ∀ (nw : List (Addr × Obj)) (v : Value), Ret nw v → ∀ (h' : Heap) (tk' : Nat), Fr h₀ L h' m → News h₀ L h' (nw ++ news) → Q v { s with heap := h', toks := tk' }) :
    wpAny (model PySem.Challenge.rw_ja0023_01.row.prog w) (ktrTop dp un gd cn cs L a ccd cl outer) (call (.ref f) vs) Q E s :=
  C _ _ _ _ _ _ _ _ _ _ _ _ _ _ _ _ _ _ _ _ _ _ B F X N T hk hd hu (fun nw v h' tk' r => ret nw v r h' tk')
theorem gFill : PySem.Challenge.rw_ja0023_01 = PySem.Challenge.rw_ja0023_01 → (Mine.hd.heap_39 = Mine.hd.heap_39) := by
  k_fill
  exact fun _ => rfl
theorem g_isleap (P : Params) : nsIn (Mine.hd.heap_39 P) mainGlobals (Str.ofString "isleap") = some (some (.ref 21)) := by k_is
theorem g_trunc (P : Params) : nsIn (Mine.hd.heap_39 P) mainGlobals (Str.ofString "trunc") = some (some (.ref 28)) := by k_is
theorem g_legal_date_gregorian (P : Params) : nsIn (Mine.hd.heap_39 P) mainGlobals (Str.ofString "legal_date_gregorian") = some (some (.ref 36)) := by k_is
theorem g_to_jd_gregorian (P : Params) : nsIn (Mine.hd.heap_39 P) mainGlobals (Str.ofString "to_jd_gregorian") = some (some (.ref 43)) := by k_is
theorem g_from_jd (P : Params) : nsIn (Mine.hd.heap_39 P) mainGlobals (Str.ofString "from_jd") = some (some (.ref 50)) := by k_is
theorem g_leap (P : Params) : nsIn (Mine.hd.heap_39 P) mainGlobals (Str.ofString "leap") = some (some (.ref 58)) := by k_is
theorem g_month_length (P : Params) : nsIn (Mine.hd.heap_39 P) mainGlobals (Str.ofString "month_length") = some (some (.ref 65)) := by k_is
theorem g_legal_date_julian (P : Params) : nsIn (Mine.hd.heap_39 P) mainGlobals (Str.ofString "legal_date_julian") = some (some (.ref 72)) := by k_is
theorem g_to_jd_julian (P : Params) : nsIn (Mine.hd.heap_39 P) mainGlobals (Str.ofString "to_jd_julian") = some (some (.ref 79)) := by k_is
theorem g_to_gregorian (P : Params) : nsIn (Mine.hd.heap_39 P) mainGlobals (Str.ofString "to_gregorian") = some (some (.ref 86)) := by k_is
theorem g_easter (P : Params) : nsIn (Mine.hd.heap_39 P) mainGlobals (Str.ofString "easter") = some (some (.ref 94)) := by k_is
theorem g_easter_western (P : Params) : nsIn (Mine.hd.heap_39 P) mainGlobals (Str.ofString "_easter_western") = some (some (.ref 101)) := by k_is
theorem g_easter_julian (P : Params) : nsIn (Mine.hd.heap_39 P) mainGlobals (Str.ofString "_easter_julian") = some (some (.ref 109)) := by k_is
theorem g_law_cell (P : Params) : nsIn (Mine.hd.heap_39 P) mainGlobals (Str.ofString "_law_cell") = some (some (.ref 116)) := by k_is
theorem g_law_gregorian (P : Params) : nsIn (Mine.hd.heap_39 P) mainGlobals (Str.ofString "_law_gregorian") = some (some (.ref 123)) := by k_is
theorem g_law_long (P : Params) : nsIn (Mine.hd.heap_39 P) mainGlobals (Str.ofString "_law_long") = some (some (.ref 130)) := by k_is
theorem g_law_sizes (P : Params) : nsIn (Mine.hd.heap_39 P) mainGlobals (Str.ofString "_law_sizes") = some (some (.ref 137)) := by k_is
theorem g_law_january (P : Params) : nsIn (Mine.hd.heap_39 P) mainGlobals (Str.ofString "_law_january") = some (some (.ref 144)) := by k_is
theorem g_law_sunday (P : Params) : nsIn (Mine.hd.heap_39 P) mainGlobals (Str.ofString "_law_sunday") = some (some (.ref 151)) := by k_is
theorem g_law_western (P : Params) : nsIn (Mine.hd.heap_39 P) mainGlobals (Str.ofString "_law_western") = some (some (.ref 158)) := by k_is
theorem g_law_julian_march (P : Params) : nsIn (Mine.hd.heap_39 P) mainGlobals (Str.ofString "_law_julian_march") = some (some (.ref 165)) := by k_is
theorem g_law_moon (P : Params) : nsIn (Mine.hd.heap_39 P) mainGlobals (Str.ofString "_law_moon") = some (some (.ref 172)) := by k_is
theorem g_law_old (P : Params) : nsIn (Mine.hd.heap_39 P) mainGlobals (Str.ofString "_law_old") = some (some (.ref 179)) := by k_is
theorem g_law_refused (P : Params) : nsIn (Mine.hd.heap_39 P) mainGlobals (Str.ofString "_law_refused") = some (some (.ref 186)) := by k_is
theorem g_HAVE_30_DAYS_gregorian (P : Params) : nsIn (Mine.hd.heap_39 P) mainGlobals (Str.ofString "HAVE_30_DAYS_gregorian") = some (some (.ref 29)) := by k_is
theorem g_HAVE_30_DAYS_julian (P : Params) : nsIn (Mine.hd.heap_39 P) mainGlobals (Str.ofString "HAVE_30_DAYS_julian") = some (some (.ref 51)) := by k_is
theorem g_EPOCH (P : Params) : nsIn (Mine.hd.heap_39 P) mainGlobals (Str.ofString "EPOCH") = some (some (.int 1721426 207)) := by k_is
theorem g_INTERCALATION_CYCLE_YEARS (P : Params) : nsIn (Mine.hd.heap_39 P) mainGlobals (Str.ofString "INTERCALATION_CYCLE_YEARS") = some (some (.int 400 209)) := by k_is
theorem g_INTERCALATION_CYCLE_DAYS (P : Params) : nsIn (Mine.hd.heap_39 P) mainGlobals (Str.ofString "INTERCALATION_CYCLE_DAYS") = some (some (.int 146097 211)) := by k_is
theorem g_LEAP_SUPPRESSION_YEARS (P : Params) : nsIn (Mine.hd.heap_39 P) mainGlobals (Str.ofString "LEAP_SUPPRESSION_YEARS") = some (some (.int 100 213)) := by k_is
theorem g_LEAP_SUPPRESSION_DAYS (P : Params) : nsIn (Mine.hd.heap_39 P) mainGlobals (Str.ofString "LEAP_SUPPRESSION_DAYS") = some (some (.int 36524 215)) := by k_is
theorem g_LEAP_CYCLE_YEARS (P : Params) : nsIn (Mine.hd.heap_39 P) mainGlobals (Str.ofString "LEAP_CYCLE_YEARS") = some (some (.int 4 217)) := by k_is
theorem g_LEAP_CYCLE_DAYS (P : Params) : nsIn (Mine.hd.heap_39 P) mainGlobals (Str.ofString "LEAP_CYCLE_DAYS") = some (some (.int 1461 219)) := by k_is
theorem g_YEAR_DAYS (P : Params) : nsIn (Mine.hd.heap_39 P) mainGlobals (Str.ofString "YEAR_DAYS") = some (some (.int 365 221)) := by k_is
theorem b_int (P : Params) : nsIn (Mine.hd.heap_39 P) mainGlobals (Str.ofString "int") = some none := by k_is
theorem v_int : bootBuiltins (Str.ofString "int") = some (.type "int") ∧ Str.ofString "int" ≠ "__name__" := ⟨by boot_fast, by decide⟩
theorem b_abs (P : Params) : nsIn (Mine.hd.heap_39 P) mainGlobals (Str.ofString "abs") = some none := by k_is
theorem v_abs : bootBuiltins (Str.ofString "abs") = some (.builtin "abs") ∧ Str.ofString "abs" ≠ "__name__" := ⟨by boot_fast, by decide⟩
theorem b_range (P : Params) : nsIn (Mine.hd.heap_39 P) mainGlobals (Str.ofString "range") = some none := by k_is
theorem v_range : bootBuiltins (Str.ofString "range") = some (.type "range") ∧ Str.ofString "range" ≠ "__name__" := ⟨by boot_fast, by decide⟩
theorem b_divmod (P : Params) : nsIn (Mine.hd.heap_39 P) mainGlobals (Str.ofString "divmod") = some none := by k_is
theorem v_divmod : bootBuiltins (Str.ofString "divmod") = some (.builtin "divmod") ∧ Str.ofString "divmod" ≠ "__name__" := ⟨by boot_fast, by decide⟩
theorem b_len (P : Params) : nsIn (Mine.hd.heap_39 P) mainGlobals (Str.ofString "len") = some none := by k_is
theorem v_len : bootBuiltins (Str.ofString "len") = some (.builtin "len") ∧ Str.ofString "len" ≠ "__name__" := ⟨by boot_fast, by decide⟩
theorem b_sum (P : Params) : nsIn (Mine.hd.heap_39 P) mainGlobals (Str.ofString "sum") = some none := by k_is
theorem v_sum : bootBuiltins (Str.ofString "sum") = some (.builtin "sum") ∧ Str.ofString "sum" ≠ "__name__" := ⟨by boot_fast, by decide⟩
theorem b_ValueError (P : Params) : nsIn (Mine.hd.heap_39 P) mainGlobals (Str.ofString "ValueError") = some none := by k_is
theorem v_ValueError : bootBuiltins (Str.ofString "ValueError") = some (.type "ValueError") ∧ Str.ofString "ValueError" ≠ "__name__" := ⟨by boot_fast, by decide⟩
abbrev tup3 (D : Addr) (c : Nat) (y m d : Int) (t1 t2 t3 : Tok) : Addr × Obj := (D, ({ cls := .type "tuple", data := .seq #[.int y t1, .int m t2, .int d t3] c } : Obj))
/-- an int within P comes back -/
def RI (P : Int → Prop) (nw : List (Addr × Obj)) (v : Value) : Prop := nw = [] ∧ ∃ i t, v = .int i t ∧ P i
/-- a bool comes back: true upon P -/
def RB (P : Prop) (nw : List (Addr × Obj)) (v : Value) : Prop := nw = [] ∧ ((P ∧ v = .bool true) ∨ (¬ P ∧ v = .bool false))
/-- a new tuple of three ints within P -/
def RT (P : Int → Int → Int → Prop) (nw : List (Addr × Obj)) (v : Value) : Prop := ∃ D c y m d t1 t2 t3, nw = [tup3 D c y m d t1 t2 t3] ∧ v = .ref D ∧ P y m d
/-- a new list of ints comes back -/
def RL (P : List Int → Prop) (nw : List (Addr × Obj)) (v : Value) : Prop := ∃ D c items zs, nw = [(D, ({ cls := .type "list", data := .seq items.toArray c } : Obj))] ∧ v = .ref D ∧ IntsAre items zs ∧ P zs
theorem RL.of {P : List Int → Prop} {D : Addr} {c : Nat} {items : List Value} {zs : List Int} (hi : IntsAre items zs) (h : P zs) : RL P [(D, ({ cls := .type "list", data := .seq items.toArray c } : Obj))] (.ref D) := ⟨D, c, items, zs, rfl, rfl, hi, h⟩
/-- a bool within P comes back -/
def RV (P : Bool → Prop) (nw : List (Addr × Obj)) (v : Value) : Prop := nw = [] ∧ ∃ b, v = .bool b ∧ P b
theorem RV.of {P : Bool → Prop} {b : Bool} (h : P b) : RV P [] (.bool b) := ⟨rfl, b, rfl, h⟩
theorem RI.of {P : Int → Prop} {i : Int} {t : Tok} (h : P i) : RI P [] (.int i t) := ⟨rfl, i, t, rfl, h⟩
theorem RB.of {P : Prop} {b : Bool} (h : b = true ↔ P) : RB P [] (.bool b) := ⟨rfl, by cases b <;> simp_all⟩
theorem RB.ofT {P : Prop} (h : P) : RB P [] (.bool true) := ⟨rfl, .inl ⟨h, rfl⟩⟩
theorem RT.of {P : Int → Int → Int → Prop} {D : Addr} {c : Nat} {y m d : Int} {t1 t2 t3 : Tok} (h : P y m d) : RT P [tup3 D c y m d t1 t2 t3] (.ref D) := ⟨D, c, y, m, d, t1, t2, t3, rfl, rfl, h⟩
theorem news_sub {h₀ h : Heap} {L : Addr} {l l' : List (Addr × Obj)} (N : News h₀ L h l) (hs : ∀ p ∈ l', p ∈ l) : News h₀ L h l' := fun p hp => N p (hs p hp)
theorem calls_RB {D : Nat} {f : Addr} {vs : List Value} {P : Prop} (C : CallsTo D f vs (RB P))
    {w : World} {mean : ExcName → Option Value} {mg mb : Str → Option Value} {dp un : Nat} {gd : Option (List Code)} {cn : Str} {cs : Scope} {a : Addr} {ccd : Value} {cl : List (Str × Addr)} {outer : List Env} {A₀ : Around} {base h₀ : Heap} {L : Addr} {m : Str → Option Value} {news : List (Addr × Obj)} {s : Shared} {Q E : Value → Shared → Prop}
    (B : Below A₀ base outer h₀) (F : Fr h₀ L s.heap m) (X : (Mine.hd.heap_39 w.params).In h₀) (N : News h₀ L s.heap news) (T : TopM mean mg mb h₀) (hk : cs.kind = .function)
    (hd : dp + D < recursionLimit) (hu : un + 8 * D < cLine)
    (ht : P → ∀ (h' : Heap) (tk' : Nat), Fr h₀ L h' m → News h₀ L h' news → Q (.bool true) { s with heap := h', toks := tk' })
    (hf : ¬ P → ∀ (h' : Heap) (tk' : Nat), Fr h₀ L h' m → News h₀ L h' news → Q (.bool false) { s with heap := h', toks := tk' }) :
    wpAny (model PySem.Challenge.rw_ja0023_01.row.prog w) (ktrTop dp un gd cn cs L a ccd cl outer) (call (.ref f) vs) Q E s := by
  refine calls_use C B F X N T hk hd hu ?_
  rintro _ _ ⟨rfl, (⟨h, rfl⟩ | ⟨h, rfl⟩)⟩ h' tk' F' N'
  · exact ht h h' tk' F' N'
  · exact hf h h' tk' F' N'
theorem calls_RI {D : Nat} {f : Addr} {vs : List Value} {P : Int → Prop} (C : CallsTo D f vs (RI P))
    {w : World} {mean : ExcName → Option Value} {mg mb : Str → Option Value} {dp un : Nat} {gd : Option (List Code)} {cn : Str} {cs : Scope} {a : Addr} {ccd : Value} {cl : List (Str × Addr)} {outer : List Env} {A₀ : Around} {base h₀ : Heap} {L : Addr} {m : Str → Option Value} {news : List (Addr × Obj)} {s : Shared} {Q E : Value → Shared → Prop}
    (B : Below A₀ base outer h₀) (F : Fr h₀ L s.heap m) (X : (Mine.hd.heap_39 w.params).In h₀) (N : News h₀ L s.heap news) (T : TopM mean mg mb h₀) (hk : cs.kind = .function)
    (hd : dp + D < recursionLimit) (hu : un + 8 * D < cLine)
    (ret : ∀ (i : Int), P i → ∀ (t : Tok) (h' : Heap) (tk' : Nat), Fr h₀ L h' m → News h₀ L h' news → Q (.int i t) { s with heap := h', toks := tk' }) :
    wpAny (model PySem.Challenge.rw_ja0023_01.row.prog w) (ktrTop dp un gd cn cs L a ccd cl outer) (call (.ref f) vs) Q E s := by
  refine calls_use C B F X N T hk hd hu ?_
  rintro _ _ ⟨rfl, i, t, rfl, h⟩ h' tk' F' N'
  exact ret i h t h' tk' F' N'
theorem calls_RT {D : Nat} {f : Addr} {vs : List Value} {P : Int → Int → Int → Prop} (C : CallsTo D f vs (RT P))
    {w : World} {mean : ExcName → Option Value} {mg mb : Str → Option Value} {dp un : Nat} {gd : Option (List Code)} {cn : Str} {cs : Scope} {a : Addr} {ccd : Value} {cl : List (Str × Addr)} {outer : List Env} {A₀ : Around} {base h₀ : Heap} {L : Addr} {m : Str → Option Value} {news : List (Addr × Obj)} {s : Shared} {Q E : Value → Shared → Prop}
    (B : Below A₀ base outer h₀) (F : Fr h₀ L s.heap m) (X : (Mine.hd.heap_39 w.params).In h₀) (N : News h₀ L s.heap news) (T : TopM mean mg mb h₀) (hk : cs.kind = .function)
    (hd : dp + D < recursionLimit) (hu : un + 8 * D < cLine)
    (ret : ∀ (y mo d : Int), P y mo d → ∀ (D : Addr) (c : Nat) (t1 t2 t3 : Tok) (h' : Heap) (tk' : Nat), Fr h₀ L h' m → News h₀ L h' ((D, ({ cls := .type "tuple", data := .seq #[.int y t1, .int mo t2, .int d t3] c } : Obj)) :: news) → Q (.ref D) { s with heap := h', toks := tk' }) :
    wpAny (model PySem.Challenge.rw_ja0023_01.row.prog w) (ktrTop dp un gd cn cs L a ccd cl outer) (call (.ref f) vs) Q E s := by
  refine calls_use C B F X N T hk hd hu ?_
  rintro _ _ ⟨D', c, y, mo, d, t1, t2, t3, rfl, rfl, h⟩ h' tk' F' N'
  exact ret y mo d h D' c t1 t2 t3 h' tk' F' N'
theorem calls_RL {D : Nat} {f : Addr} {vs : List Value} {P : List Int → Prop} (C : CallsTo D f vs (RL P))
    {w : World} {mean : ExcName → Option Value} {mg mb : Str → Option Value} {dp un : Nat} {gd : Option (List Code)} {cn : Str} {cs : Scope} {a : Addr} {ccd : Value} {cl : List (Str × Addr)} {outer : List Env} {A₀ : Around} {base h₀ : Heap} {L : Addr} {m : Str → Option Value} {news : List (Addr × Obj)} {s : Shared} {Q E : Value → Shared → Prop}
    (B : Below A₀ base outer h₀) (F : Fr h₀ L s.heap m) (X : (Mine.hd.heap_39 w.params).In h₀) (N : News h₀ L s.heap news) (T : TopM mean mg mb h₀) (hk : cs.kind = .function)
    (hd : dp + D < recursionLimit) (hu : un + 8 * D < cLine)
    (ret : ∀ (zs : List Int), P zs → ∀ (items : List Value), IntsAre items zs → ∀ (D : Addr) (c : Nat) (h' : Heap) (tk' : Nat), Fr h₀ L h' m → News h₀ L h' ((D, ({ cls := .type "list", data := .seq items.toArray c } : Obj)) :: news) → Q (.ref D) { s with heap := h', toks := tk' }) :
    wpAny (model PySem.Challenge.rw_ja0023_01.row.prog w) (ktrTop dp un gd cn cs L a ccd cl outer) (call (.ref f) vs) Q E s := by
  refine calls_use C B F X N T hk hd hu ?_
  rintro _ _ ⟨D', c, items, zs, rfl, rfl, hi, h⟩ h' tk' F' N'
  exact ret zs h items hi D' c h' tk' F' N'
theorem calls_RV {D : Nat} {f : Addr} {vs : List Value} {P : Bool → Prop} (C : CallsTo D f vs (RV P))
    {w : World} {mean : ExcName → Option Value} {mg mb : Str → Option Value} {dp un : Nat} {gd : Option (List Code)} {cn : Str} {cs : Scope} {a : Addr} {ccd : Value} {cl : List (Str × Addr)} {outer : List Env} {A₀ : Around} {base h₀ : Heap} {L : Addr} {m : Str → Option Value} {news : List (Addr × Obj)} {s : Shared} {Q E : Value → Shared → Prop}
    (B : Below A₀ base outer h₀) (F : Fr h₀ L s.heap m) (X : (Mine.hd.heap_39 w.params).In h₀) (N : News h₀ L s.heap news) (T : TopM mean mg mb h₀) (hk : cs.kind = .function)
    (hd : dp + D < recursionLimit) (hu : un + 8 * D < cLine)
    (ret : ∀ (b : Bool), P b → ∀ (h' : Heap) (tk' : Nat), Fr h₀ L h' m → News h₀ L h' news → Q (.bool b) { s with heap := h', toks := tk' }) :
    wpAny (model PySem.Challenge.rw_ja0023_01.row.prog w) (ktrTop dp un gd cn cs L a ccd cl outer) (call (.ref f) vs) Q E s := by
  refine calls_use C B F X N T hk hd hu ?_
  rintro _ _ ⟨rfl, b, rfl, h⟩ h' tk' F' N'
  exact ret b h h' tk' F' N'
def CallsKw (D : Nat) (f : Addr) (vs : List Value) (kw : List (Str × Value)) (Ret : (List (Addr × Obj)) → Value → Prop) : Prop :=
  ∀ (w : World) (mean : ExcName → Option Value) (mg mb : Str → Option Value) (dp un : Nat) (gd : Option (List Code)) (cn : Str) (cs : Scope) (a : Addr) (ccd : Value) (cl : List (Str × Addr)) (outer : List Env) (A₀ : Around) (base h₀ : Heap) (L : Addr) (m : Str → Option Value) (news : List (Addr × Obj)) (s : Shared) (Q E : Value → Shared → Prop),
    Below A₀ base outer h₀ → Fr h₀ L s.heap m → (Mine.hd.heap_39 w.params).In h₀ → News h₀ L s.heap news → TopM mean mg mb h₀ → cs.kind = .function →
    dp + D < recursionLimit → un + 8 * D < cLine →
    (∀ (nw : List (Addr × Obj)) (v : Value) (h' : Heap) (tk' : Nat), Ret nw v → Fr h₀ L h' m → News h₀ L h' (nw ++ news) → Q v { s with heap := h', toks := tk' }) →
    wpAny (model PySem.Challenge.rw_ja0023_01.row.prog w) (ktrTop dp un gd cn cs L a ccd cl outer) (call (.ref f) vs kw) Q E s
theorem calls_RTkw {D : Nat} {f : Addr} {vs : List Value} {kw : List (Str × Value)} {P : Int → Int → Int → Prop} (C : CallsKw D f vs kw (RT P))
    {w : World} {mean : ExcName → Option Value} {mg mb : Str → Option Value} {dp un : Nat} {gd : Option (List Code)} {cn : Str} {cs : Scope} {a : Addr} {ccd : Value} {cl : List (Str × Addr)} {outer : List Env} {A₀ : Around} {base h₀ : Heap} {L : Addr} {m : Str → Option Value} {news : List (Addr × Obj)} {s : Shared} {Q E : Value → Shared → Prop}
    (B : Below A₀ base outer h₀) (F : Fr h₀ L s.heap m) (X : (Mine.hd.heap_39 w.params).In h₀) (N : News h₀ L s.heap news) (T : TopM mean mg mb h₀) (hk : cs.kind = .function)
    (hd : dp + D < recursionLimit) (hu : un + 8 * D < cLine)
    (ret : ∀ (y mo d : Int), P y mo d → ∀ (D : Addr) (c : Nat) (t1 t2 t3 : Tok) (h' : Heap) (tk' : Nat), Fr h₀ L h' m → News h₀ L h' ((D, ({ cls := .type "tuple", data := .seq #[.int y t1, .int mo t2, .int d t3] c } : Obj)) :: news) → Q (.ref D) { s with heap := h', toks := tk' }) :
    wpAny (model PySem.Challenge.rw_ja0023_01.row.prog w) (ktrTop dp un gd cn cs L a ccd cl outer) (call (.ref f) vs kw) Q E s := by
  refine C _ _ _ _ _ _ _ _ _ _ _ _ _ _ _ _ _ _ _ _ _ _ B F X N T hk hd hu ?_
  rintro _ _ h' tk' ⟨D', c, y, mo, d, t1, t2, t3, rfl, rfl, h⟩ F' N'
  exact ret y mo d h D' c t1 t2 t3 h' tk' F' N'
theorem ret_sub {h₀ : Heap} {L : Addr} {m : Str → Option Value} {news : List (Addr × Obj)} {s : Shared} {Q : Value → Shared → Prop} {Ret : (List (Addr × Obj)) → Value → Prop}
    (ret : ∀ (nw : List (Addr × Obj)) (v : Value) (h' : Heap) (tk' : Nat), Ret nw v → Fr h₀ L h' m → News h₀ L h' (nw ++ news) → Q v { s with heap := h', toks := tk' })
    (nw : List (Addr × Obj)) {v : Value} {h' : Heap} {tk' : Nat} {all : List (Addr × Obj)} (r : Ret nw v) (F : Fr h₀ L h' m) (N : News h₀ L h' all) (hs : ∀ p ∈ nw ++ news, p ∈ all) : Q v { s with heap := h', toks := tk' } := ret nw v h' tk' r F (news_sub N hs)
theorem ret_RT {h₀ : Heap} {L : Addr} {m : Str → Option Value} {news all : List (Addr × Obj)} {s : Shared} {Q : Value → Shared → Prop} {P : Int → Int → Int → Prop}
    (ret : ∀ (nw : List (Addr × Obj)) (v : Value) (h' : Heap) (tk' : Nat), RT P nw v → Fr h₀ L h' m → News h₀ L h' (nw ++ news) → Q v { s with heap := h', toks := tk' })
    {D : Addr} {c : Nat} {y mo d : Int} {t1 t2 t3 : Tok} {h' : Heap} {tk' : Nat} (F : Fr h₀ L h' m) (N : News h₀ L h' ((D, ({ cls := .type "tuple", data := .seq #[.int y t1, .int mo t2, .int d t3] c } : Obj)) :: all)) (hs : ∀ p ∈ news, p ∈ all) (r : P y mo d) : Q (.ref D) { s with heap := h', toks := tk' } :=
  ret_sub ret [_] (RT.of r) F N (fun p hp => by
    rcases List.mem_cons.mp hp with h | h
    · rw [h]; exact List.mem_cons_self
    · exact List.mem_cons_of_mem _ (hs p h))
section
variable {prog : Program} {w : World} {A : Around} {E : Value → Shared → Prop} {s : Shared} {a b : Int} {t u : Tok} {Q : Value → Shared → Prop}
theorem my_fdiv (hb : 0 < b) (hs : b < 1073741824) (h : ∀ v : Int, v = a / b → ∀ (t' : Tok) (tk : Nat), Q (.int v t') { s with toks := tk }) : wpAny (model prog w) A (binaryOp .FloorDiv (.int a t) (.int b u)) Q E s :=
  floordiv_int (by omega) (h _ (Int.fdiv_eq_ediv_of_nonneg _ (by omega)) _ _) (Or.inl (PyProof.noPylong_small (by omega)))
theorem my_fmod (hb : 0 < b) (h : ∀ v : Int, v = a % b → ∀ (t' : Tok) (tk : Nat), Q (.int v t') { s with toks := tk }) : wpAny (model prog w) A (binaryOp .Mod (.int a t) (.int b u)) Q E s :=
  mod_int' (by omega) (h _ (Int.fmod_eq_emod_of_nonneg _ (by omega)) _ _)
theorem my_divmod {h₀ : Heap} {L : Addr} {m : Str → Option Value} {news : List (Addr × Obj)} (F : Fr h₀ L s.heap m) (N : News h₀ L s.heap news) (hb : 0 < b) (hs : b < 1073741824)
    (h : ∀ q r : Int, q = a / b → r = a % b → ∀ (D : Addr) (t1 t2 : Tok) (h' : Heap) (tk : Nat), Fr h₀ L h' m → News h₀ L h' ((D, ({ cls := .type "tuple", data := .seq #[.int q t1, .int r t2] } : Obj)) :: news) → Q (.ref D) { s with heap := h', toks := tk }) :
    wpAny (model prog w) A (call (.builtin "divmod") [.int a t, .int b u]) Q E s :=
  divmod_N F N (by omega) (fun h' F' N' => h _ _ (Int.fdiv_eq_ediv_of_nonneg _ (by omega)) (Int.fmod_eq_emod_of_nonneg _ (by omega)) _ _ _ h' _ F' N') (Or.inl (PyProof.noPylong_small (by omega)))
theorem my_abs (h : ∀ v : Int, (0 ≤ a → v = a) → (a < 0 → v = -a) → ∀ (t' : Tok) (tk : Nat), Q (.int v t') { s with toks := tk }) : wpAny (model prog w) A (call (.builtin "abs") [.int a t]) Q E s :=
  call_abs_int fun u tk => h _ (fun h0 => if_neg (by omega)) (fun h0 => if_pos h0) u tk
theorem my_in {x : Int} {tp : Addr} {items : List Value} {ns : List Int} {Q : Value → Shared → Prop} (ht : IsTup s.heap tp items.toArray) (hi : IntsAre items ns) (h1 : x ∈ ns → Q (.bool true) s) (h2 : x ∉ ns → Q (.bool false) s) : wpAny (model prog w) A (compareOp .In (.int x t) (.ref tp)) Q E s := by
  refine in_tuple_ints (ns := ns) ht (by simpa using hi) ?_
  by_cases h : x ∈ ns
  · have : ns.any (· == x) = true := by simp [h]
    rw [this]; exact h1 h
  · have : ns.any (· == x) = false := by
      rw [List.any_eq_false]; intro y hy; simp; rintro rfl; exact h hy
    rw [this]; exact h2 h
end
end Mine
namespace Mine
local macro_rules | `(tactic| walk_at "binaryOp FloorDiv int int") => `(tactic| (k_here; (with_reducible refine my_fdiv ?md1 ?md2 ?_); (case md1 => first | decide | omega); (case md2 => first | decide | omega); intro v' hv' t' tk'; (try k_fold)))
local macro_rules | `(tactic| walk_at "binaryOp Mod int int") => `(tactic| (k_here; (with_reducible refine my_fmod ?md1 ?_); (case md1 => first | decide | omega); intro v' hv' t' tk'; (try k_fold)))
local macro_rules | `(tactic| walk_at "call builtin:abs") => `(tactic| (k_here; (with_reducible refine my_abs ?_); intro v' hp' hn' t' tk'; (try k_fold)))
-- a contract in use: x the address, c the contract
local macro_rules | `(tactic| ktr_call $x:term $c:term) => `(tactic| (k_here; (with_reducible show wpAny _ _ (PySem.call (Value.ref $x) _) _ _ _); k_dflt (first
  | (refine' calls_RI $c ?k1 ?k2 ?k3 ?k4 ?k5 ?kK ?kd ?ku ?_; (case k1 => k_asm); (case k2 => k_asm); (case k3 => k_asm); (case k4 => k_asm); (case k5 => k_asm); (case kK => first | exact rfl | assumption); (case kd => ktr_room); (case ku => ktr_units); intro i' hi' t' h' tk' F' N'; (try k_sweep); (try k_fold))
  | (refine' calls_RV $c ?k1 ?k2 ?k3 ?k4 ?k5 ?kK ?kd ?ku ?_; (case k1 => k_asm); (case k2 => k_asm); (case k3 => k_asm); (case k4 => k_asm); (case k5 => k_asm); (case kK => first | exact rfl | assumption); (case kd => ktr_room); (case ku => ktr_units); intro b' hi' h' tk' F' N'; (try k_sweep); (try k_fold))
  | (refine' calls_RL $c ?k1 ?k2 ?k3 ?k4 ?k5 ?kK ?kd ?ku ?_; (case k1 => k_asm); (case k2 => k_asm); (case k3 => k_asm); (case k4 => k_asm); (case k5 => k_asm); (case kK => first | exact rfl | assumption); (case kd => ktr_room); (case ku => ktr_units); intro zs' hi' it' hz' D' c' h' tk' F' N'; (try k_sweep); (try k_fold))
  | (refine' calls_RT $c ?k1 ?k2 ?k3 ?k4 ?k5 ?kK ?kd ?ku ?_; (case k1 => k_asm); (case k2 => k_asm); (case k3 => k_asm); (case k4 => k_asm); (case k5 => k_asm); (case kK => first | exact rfl | assumption); (case kd => ktr_room); (case ku => ktr_units); intro y' m' d' hi' D' c' t1' t2' t3' h' tk' F' N'; (try k_sweep); (try k_fold))
  | (refine' calls_RB $c ?k1 ?k2 ?k3 ?k4 ?k5 ?kK ?kd ?ku ?ht ?hf; (case k1 => k_asm); (case k2 => k_asm); (case k3 => k_asm); (case k4 => k_asm); (case k5 => k_asm); (case kK => first | exact rfl | assumption); (case kd => ktr_room); (case ku => ktr_units); (case' hf => (intro hl' h' tk' F' N'; first | exact absurd True.intro hl' | exact absurd (by with_reducible assumption) hl' | ((try k_sweep); (try k_fold)))); (case' ht => (intro hl' h' tk' F' N'; first | exact absurd (by with_reducible assumption) hl' | exact absurd hl' (by with_reducible assumption) | ((try k_sweep); (try k_fold))))))))
local macro_rules | `(tactic| walk_at "eval Call") => `(tactic| ((with_reducible show wpAny _ _ (PySem.eval (PySem.Expr.Call (PySem.Expr.Name _ _) _ [] _) _) _ _ _); k_dflt (refine Call_ ?_)))
local macro_rules | `(tactic| walk_at "compareOp In int ref") => `(tactic| (k_here; k_dflt (refine' my_in ?kt ?ki ?_ ?_; (case kt => first | exact tupK (Frag.In.keeps (by k_asm) (Fr.keep (by k_asm))) (by k_is) | exact News.isTup (by k_asm) (by k_mem)); (case ki => repeat constructor)); all_goals (intro hm'; (try simp only [List.mem_cons, List.mem_nil_iff, or_false, not_or] at hm'))))
local macro_rules | `(tactic| walk_at "ite") => `(tactic| (k_here; first
  | with_reducible refine ite_tt ?_
  | with_reducible refine ite_ff ?_
  | with_reducible refine split_not ?_
  | (with_reducible refine split_dec ?_ ?_ <;> intro hc' <;> (try (exfalso; omega)))
  | (with_reducible refine split_ieq ?_ ?_ <;> intro hc' <;> (try (exfalso; omega)))
  | (with_reducible refine split_ine ?_ ?_ <;> intro hc' <;> (try (exfalso; omega)))))
local macro_rules | `(tactic| ktn_open) => `(tactic| first | exact AtN.head | (refine' AtN.tail ?pb; (case pb => ktn_open)) | exact PutN.head | (refine' PutN.tail ?pb; (case pb => ktn_open)) | exact List.mem_cons_self | (refine' List.mem_cons_of_mem _ ?pb; (case pb => ktn_open)))
local macro_rules | `(tactic| walk_at "eval Name") => `(tactic| (k_here; k_dflt (first
  | (refine' nameM ?F ?O ?a ?_; (case F => k_asm); (case O => with_reducible assumption); (case a => with_reducible ktn_open))
  | (refine' nameMG ?F ?X ?T ?O ?hx ?e ?_; (case F => k_asm); (case X => k_asm); (case T => k_asm); (case O => with_reducible assumption); (case hx => with_reducible ktn_open); (case e => with_reducible first | exact g_isleap _ | exact g_trunc _ | exact g_legal_date_gregorian _ | exact g_to_jd_gregorian _ | exact g_from_jd _ | exact g_leap _ | exact g_month_length _ | exact g_legal_date_julian _ | exact g_to_jd_julian _ | exact g_to_gregorian _ | exact g_easter _ | exact g_easter_western _ | exact g_easter_julian _ | exact g_law_cell _ | exact g_law_gregorian _ | exact g_law_long _ | exact g_law_sizes _ | exact g_law_january _ | exact g_law_sunday _ | exact g_law_western _ | exact g_law_julian_march _ | exact g_law_moon _ | exact g_law_old _ | exact g_law_refused _ | exact g_HAVE_30_DAYS_gregorian _ | exact g_HAVE_30_DAYS_julian _ | exact g_EPOCH _ | exact g_INTERCALATION_CYCLE_YEARS _ | exact g_INTERCALATION_CYCLE_DAYS _ | exact g_LEAP_SUPPRESSION_YEARS _ | exact g_LEAP_SUPPRESSION_DAYS _ | exact g_LEAP_CYCLE_YEARS _ | exact g_LEAP_CYCLE_DAYS _ | exact g_YEAR_DAYS _))
  | (refine' nameMB ?F ?X ?T ?O ?hx ?e ?v ?_; (case F => k_asm); (case X => k_asm); (case T => k_asm); (case O => with_reducible assumption); (case hx => with_reducible ktn_open); (case e => with_reducible first | exact b_int _ | exact b_abs _ | exact b_range _ | exact b_divmod _ | exact b_len _ | exact b_sum _ | exact b_ValueError _); (case v => with_reducible first | exact v_int | exact v_abs | exact v_range | exact v_divmod | exact v_len | exact v_sum | exact v_ValueError)))))
local macro_rules | `(tactic| walk_at "loadName") => `(tactic| (k_here; k_dflt (refine' nameMl ?F ?O ?a ?_; (case F => k_asm); (case O => with_reducible assumption); (case a => with_reducible ktn_open))))
local macro_rules | `(tactic| walk_at "storeName") => `(tactic| (k_here; k_dflt (refine' storeM ?F ?N ?O ?P ?_; (case F => k_asm); (case N => k_asm); (case O => with_reducible assumption); (case P => with_reducible ktn_open); intro h' tk' F' N'; (try k_sweep); (try dsimp only))))
local macro_rules | `(tactic| cell_end $as:term $rest:term $gs:term) => `(tactic| (refine wpAny_call ?_; k_dflt (refine' enterM $as $rest $gs ?k1 ?k2 ?k3 ?k4 ?k5 ?kA ?kF ?kK ?k6 ?k7 ?k8 ?k9 ?kl ?kO ?_ ?c2 ?c3 ?c5; (case kA => exact rfl); (case kF => exact rfl); (case kK => assumption); (case k1 => k_asm); (case k2 => k_asm); (case k3 => k_asm); (case k4 => k_asm); (case k5 => k_asm); (case k6 => k_is); (case k7 => k_is); (case k8 => ktr_room); (case k9 => exact rfl); (case kl => exact rfl); (case kO => exact LocOk.of (by decide +kernel)); (case c5 => decide); (case c2 => exact rfl); (case c3 => exact rfl); intro g' L' h' tk' FG' F' N' B' X' T' O'; (try simp only [List.cons_append, List.nil_append, List.map_cons, List.map_nil] at F' O'); (try dsimp only); (try k_fold))))
local macro_rules | `(tactic| walk_at "binaryOp Mult int int") => `(tactic| (k_here; k_dflt (first | (with_reducible refine mul_int ?_ (IntMulOk.of_left (intBits_le_64 ?ml ?mr)); (case ml => decide); (case mr => decide)) | (with_reducible refine mul_int ?_ (IntMulOk.of_right (intBits_le_64 ?ml ?mr)); (case ml => decide); (case mr => decide)) | (with_reducible refine mul_int ?_ (IntMulOk.of_right (intBits_le_64 ?ml ?mr)); (case ml => omega); (case mr => omega)))))
local macro_rules | `(tactic| walk_at "call builtin:divmod") => `(tactic| (k_here; k_dflt (refine' my_divmod ?F ?N ?md1 ?md2 ?_; (case F => k_asm); (case N => k_asm); (case md1 => first | decide | omega); (case md2 => first | decide | omega); intro q' r' hq' hr' D' t1' t2' h' tk' F' N'; (try k_sweep); (try k_fold))))
local macro_rules | `(tactic| walk_at "TurnM") => `(tactic| (k_dflt (first | (with_reducible refine TurnM.ret ?_) | (with_reducible refine TurnM.brk ?_) | (refine' TurnM.next ?F ?N ?s ?_; (case F => k_asm); (case N => k_asm); (case s => first | exact (fun _ h => h) | exact (fun _ h => List.mem_cons_of_mem _ h) | exact (fun _ h => List.mem_cons_of_mem _ (List.mem_cons_of_mem _ h)) | kst_allIn); (try ktr_rel)) | (refine' TurnM.cont ?F ?N ?s ?_; (case F => k_asm); (case N => k_asm); (case s => first | exact (fun _ h => h) | exact (fun _ h => List.mem_cons_of_mem _ h) | exact (fun _ h => List.mem_cons_of_mem _ (List.mem_cons_of_mem _ h)) | kst_allIn); (try ktr_rel)))))
local macro_rules | `(tactic| k_steps) => `(tactic| repeat' (first | (k_unfold; (try dsimp only)) | walk1 | (dsimp only; walk1) | fail "no step"))
section
set_option maxRecDepth 100000 in
set_option maxHeartbeats 1000000 in
theorem c_isleap (y : Int) (ty : Tok) : CallsTo 1 21 [.int y ty] (RB (LeapG y)) := by
  unfold CallsTo
  k_fill
  w_top off
  intro w mean mg mb dp un gd cn cs a' ccd cl outer A₀ base h₀ L fm news s Q E B F X N T hk hd hu hret
  cell_end ["year"] [] []
  k_steps
  all_goals (refine ret_sub hret [] (RB.of ?_) (by assumption) (by assumption) (fun p hp => hp))
  all_goals (simp only [LeapG, beq_iff_eq, bne_iff_ne, ne_eq]; omega)
end
section
local macro_rules | `(tactic| walk_at "no such key") => `(tactic| skip)
def TruncV (a b v : Int) : Prop := (0 ≤ a → v = a / b) ∧ (a < 0 → v = -((-a) / b))
theorem trunc_fin {a b x y v : Int} {c : Bool} (hb : 0 < b) (hc : (decide (a < 0) == decide (b < 0)) = c) (h1 : 0 ≤ a → x = a) (h2 : a < 0 → x = -a) (h3 : 0 ≤ b → y = b) (hv : v = x / y) : TruncV a b (if c then v else -v) := by
  have e := h3 (by omega)
  subst e
  have hb' : decide (y < 0) = false := by simp; omega
  rw [hb'] at hc
  by_cases h : 0 ≤ a
  · have e := h1 h
    subst e
    have : decide (x < 0) = false := by simp; omega
    rw [this] at hc
    subst hc
    exact ⟨fun _ => hv, fun h' => by omega⟩
  · have e := h2 (by omega)
    subst e
    have : decide (a < 0) = true := by simp; omega
    rw [this] at hc
    subst hc
    exact ⟨fun h' => by omega, fun _ => by rw [hv]; rfl⟩
set_option maxRecDepth 100000 in
set_option maxHeartbeats 8000000 in
theorem c_trunc (a b : Int) (ta tb : Tok) (hb : 0 < b) (hs : b < 1073741824) : CallsTo 1 28 [.int a ta, .int b tb] (RI (TruncV a b)) := by
  unfold CallsTo
  k_fill
  w_top off
  intro w mean mg mb dp un gd cn cs a' ccd cl outer A₀ base h₀ L m news s Q E B F X N T hk hd hu hret
  cell_end ["a", "b"] ["share"] ["abs"]
  k_steps
  all_goals (refine ret_sub hret [] (RI.of ?_) (by assumption) (by assumption) (fun p hp => hp))
  · exact trunc_fin (c := true) hb (by assumption) (by assumption) (by assumption) (by assumption) (by assumption)
  · exact trunc_fin (c := false) hb (by assumption) (by assumption) (by assumption) (by assumption) (by assumption)
-- legal_date of gregorian
local macro_rules | `(tactic| walk_at "call ref") => `(tactic| ktr_call 21 (c_isleap _ _))
set_option maxRecDepth 100000 in
set_option maxHeartbeats 1000000 in
theorem c_legalG (y m d : Int) (t1 t2 t3 : Tok) (hL : LegalG y m d) : CallsTo 2 36 [.int y t1, .int m t2, .int d t3] (RB True) := by
  unfold CallsTo
  k_fill
  w_top off
  intro w mean mg mb dp un gd cn cs a' ccd cl outer A₀ base h₀ L fm news s Q E B F X N T hk hd hu hret
  obtain ⟨h0, hL⟩ := hL
  rcases hL with ⟨rfl, hl, h1⟩ | ⟨rfl, hl, h1⟩ | ⟨h2, h1⟩ | ⟨⟨h2, h3, h4, h5, h6⟩, h1⟩
  · cell_end ["year", "month", "day"] ["daysinmonth"] ["isleap", "HAVE_30_DAYS_gregorian", "ValueError"]
    k_steps
    all_goals (refine ret_sub hret [] (RB.ofT trivial) (by assumption) (by assumption) (fun p hp => hp))
  · cell_end ["year", "month", "day"] ["daysinmonth"] ["isleap", "HAVE_30_DAYS_gregorian", "ValueError"]
    k_steps
    all_goals (refine ret_sub hret [] (RB.ofT trivial) (by assumption) (by assumption) (fun p hp => hp))
  · cell_end ["year", "month", "day"] ["daysinmonth"] ["isleap", "HAVE_30_DAYS_gregorian", "ValueError"]
    k_steps
    all_goals (refine ret_sub hret [] (RB.ofT trivial) (by assumption) (by assumption) (fun p hp => hp))
  · cell_end ["year", "month", "day"] ["daysinmonth"] ["isleap", "HAVE_30_DAYS_gregorian", "ValueError"]
    k_steps
    all_goals (refine ret_sub hret [] (RB.ofT trivial) (by assumption) (by assumption) (fun p hp => hp))
end
section
local macro_rules | `(tactic| walk_at "no such key") => `(tactic| skip)
theorem jg1 {y m d v a b c e : Int} (h : m ≤ 2) (ha : a = (y - 1) / 4) (hb : b = (y - 1) / 100) (hc : c = (y - 1) / 400) (he : e = (367 * m - 362) / 12) (hv : v = 1721426 - 1 + 365 * (y - 1) + a + -b + c + (e + 0 + d)) : JGs y m d v :=
  ⟨0, fun _ => rfl, fun h' => by omega, fun h' => by omega, by subst ha hb hc he; omega⟩
theorem jg2 {y m d v a b c e : Int} (h : ¬ m ≤ 2) (hl : LeapG y) (ha : a = (y - 1) / 4) (hb : b = (y - 1) / 100) (hc : c = (y - 1) / 400) (he : e = (367 * m - 362) / 12) (hv : v = 1721426 - 1 + 365 * (y - 1) + a + -b + c + (e + -1 + d)) : JGs y m d v :=
  ⟨-1, fun h' => by omega, fun _ _ => rfl, fun _ h' => absurd hl h', by subst ha hb hc he; omega⟩
theorem jg3 {y m d v a b c e : Int} (h : ¬ m ≤ 2) (hl : ¬ LeapG y) (ha : a = (y - 1) / 4) (hb : b = (y - 1) / 100) (hc : c = (y - 1) / 400) (he : e = (367 * m - 362) / 12) (hv : v = 1721426 - 1 + 365 * (y - 1) + a + -b + c + (e + -2 + d)) : JGs y m d v :=
  ⟨-2, fun h' => by omega, fun _ h' => absurd h' hl, fun _ _ => rfl, by subst ha hb hc he; omega⟩
local macro_rules | `(tactic| walk_at "call ref") => `(tactic| ktr_call 21 (c_isleap _ _))
local macro_rules | `(tactic| walk_at "call ref") => `(tactic| ktr_call 36 (c_legalG _ _ _ _ _ _ (by assumption)))
set_option maxRecDepth 100000 in
set_option maxHeartbeats 1000000 in
theorem c_toJdG (y m d : Int) (t1 t2 t3 : Tok) (hL : LegalG y m d) : CallsTo 3 43 [.int y t1, .int m t2, .int d t3] (RI (JGs y m d)) := by
  unfold CallsTo
  k_fill
  w_top off
  intro w mean mg mb dp un gd cn cs a' ccd cl outer A₀ base h₀ L fm news s Q E B F X N T hk hd hu hret
  cell_end ["year", "month", "day"] ["leap_adj"] ["legal_date_gregorian", "isleap", "EPOCH", "YEAR_DAYS", "LEAP_CYCLE_YEARS", "LEAP_SUPPRESSION_YEARS", "INTERCALATION_CYCLE_YEARS"]
  k_steps
  all_goals (refine ret_sub hret [] (RI.of ?_) (by assumption) (by assumption) (fun p hp => hp))
  · exact jg1 (by assumption) (by assumption) (by assumption) (by assumption) (by assumption) rfl
  · exact jg2 (by assumption) (by assumption) (by assumption) (by assumption) (by assumption) (by assumption) rfl
  · exact jg3 (by assumption) (by assumption) (by assumption) (by assumption) (by assumption) (by assumption) rfl
end
section
theorem legal1 (y m : Int) : LegalG y m 1 := by
  unfold LegalG
  by_cases hl : LeapG y <;> simp only [hl, true_and, not_true_eq_false, not_false_eq_true, false_and, and_false, or_false, false_or] <;> omega
local macro_rules | `(tactic| walk_at "call ref") => `(tactic| ktr_call 21 (c_isleap _ _))
local macro_rules | `(tactic| walk_at "call ref") => `(tactic| ktr_call 43 (c_toJdG _ _ _ _ _ _ (legal1 _ _)))
set_option maxRecDepth 100000 in
set_option maxHeartbeats 1000000 in
theorem c_fromJd (jd : Int) (t1 : Tok) : CallsTo 4 50 [.int jd t1] (RT (IsDate jd)) := by
  unfold CallsTo
  k_fill
  w_top off
  intro w mean mg mb dp un gd cn cs a' ccd cl outer A₀ base h₀ L fm news s Q E B F X N T hk hd hu hret
  cell_end ["jd"] ["wjd", "depoch", "quadricent", "dqc", "cent", "dcent", "quad", "dquad", "yindex", "year", "yearday", "leap", "leap_adj", "month", "day"] ["EPOCH", "INTERCALATION_CYCLE_DAYS", "LEAP_SUPPRESSION_DAYS", "LEAP_CYCLE_DAYS", "YEAR_DAYS", "INTERCALATION_CYCLE_YEARS", "LEAP_SUPPRESSION_YEARS", "LEAP_CYCLE_YEARS", "to_jd_gregorian", "isleap", "int"]
  k_steps
  all_goals (refine ret_sub hret [_] (RT.of ?_) (by assumption) (by assumption) (fun p hp => hp))
  all_goals (
    refine' fromJd_fin (year_fin ?a7 ?a6 ?a5 ?a4 ?a3 ?a2 ?a1 ?aY) ?aj ?aa ?am ?ak
    (case a7 => assumption)
    (case a6 => assumption)
    (case a5 => assumption)
    (case a4 => assumption)
    (case a3 => assumption)
    (case a2 => assumption)
    (case a1 => assumption)
    (case ak => assumption)
    (case am => assumption)
    (case aj => assumption)
    (case aY => first | exact .inl ⟨.inl (by assumption), rfl⟩ | exact .inl ⟨.inr (by assumption), rfl⟩ | exact .inr ⟨by assumption, by assumption, rfl⟩)
    (case aa => first | exact adj1 (by assumption) (by assumption) | exact adj2 (by assumption) (by assumption) | exact adj3 (by assumption) (by assumption) | exact adj4 (by assumption) (by assumption)))
end
section
set_option maxRecDepth 100000 in
set_option maxHeartbeats 1000000 in
theorem c_long (y : Int) (ty : Tok) : CallsTo 1 130 [.int y ty] (RV (fun b => (LeapG y ∧ b = true) ∨ (¬ LeapG y ∧ b = false))) := by
  unfold CallsTo
  k_fill
  w_top off
  intro w mean mg mb dp un gd cn cs a' ccd cl outer A₀ base h₀ L fm news s Q E B F X N T hk hd hu hret
  cell_end ["year"] [] []
  k_steps
  all_goals (refine ret_sub hret [] (RV.of ?_) (by assumption) (by assumption) (fun p hp => hp))
  all_goals (simp only [LeapG, beq_iff_eq, bne_iff_ne, ne_eq, beq_eq_false_iff_ne, bne_eq_false_iff_eq]; omega)
set_option maxRecDepth 100000 in
set_option maxHeartbeats 1000000 in
theorem c_sizes (b : Bool) : CallsTo 1 137 [.bool b] (RL (fun zs => zs = sizesOf b)) := by
  unfold CallsTo
  k_fill
  w_top off
  intro w mean mg mb dp un gd cn cs a' ccd cl outer A₀ base h₀ L fm news s Q E B F X N T hk hd hu hret
  cases b
  · cell_end ["long"] [] []
    k_steps
    refine ret_sub hret [_] (RL.of (zs := [31, 28, 31, 30, 31, 30, 31, 31, 30, 31, 30, 31]) ?_ rfl) (by assumption) (by assumption) (fun p hp => hp)
    repeat constructor
  · cell_end ["long"] [] []
    k_steps
    refine ret_sub hret [_] (RL.of (zs := [31, 29, 31, 30, 31, 30, 31, 31, 30, 31, 30, 31]) ?_ rfl) (by assumption) (by assumption) (fun p hp => hp)
    repeat constructor
end
section
/-- the three loops of _law_gregorian: rest and year, by the turns -/
@[irreducible] def IvG (c d : Int) (vs₀ : List (Option Value)) (i : Nat) (vs : List (Option Value)) : Prop :=
  ∃ (jd rows : Option Value) (r0 y0 r y q : Int) (k0 k mo si : Option Value) (t0 u0 t u : Tok), vs₀ = [jd, rows, some (.int r0 t0), some (.int y0 u0), k0, mo, si] ∧ vs = [jd, rows, some (.int r t), some (.int y u), k, mo, si] ∧
    y = y0 + d * q ∧ r = r0 - c * q ∧ 0 ≤ q ∧ q ≤ (i : Int) ∧ 0 ≤ r ∧ (q < (i : Int) → r < c)
theorem ivg_start {c d : Int} {jd rows k0 mo si : Option Value} {r0 y0 : Int} {t0 u0 : Tok} (h : 0 ≤ r0) : IvG c d [jd, rows, some (.int r0 t0), some (.int y0 u0), k0, mo, si] 0 [jd, rows, some (.int r0 t0), some (.int y0 u0), k0, mo, si] := by
  unfold IvG
  exact ⟨_, _, _, _, _, _, 0, _, _, _, _, _, _, _, _, rfl, rfl, by omega, by omega, by omega, by omega, h, fun h => by omega⟩
theorem ivg_take {c d : Int} {jd rows k0 k mo si : Option Value} {r0 y0 r y q : Int} {i : Nat} {t0 u0 t u : Tok} (ey : y = y0 + d * q) (er : r = r0 - c * q) (q0 : 0 ≤ q) (q1 : q ≤ (i : Int)) (rq : q < (i : Int) → r < c) (hc : c ≤ r) :
    IvG c d [jd, rows, some (.int r0 t0), some (.int y0 u0), k0, mo, si] (i + 1) [jd, rows, some (.int (r - c) t), some (.int (y + d) u), k, mo, si] := by
  have e1 : c * (q + 1) = c * q + c := by rw [Int.mul_add, Int.mul_one]
  have e2 : d * (q + 1) = d * q + d := by rw [Int.mul_add, Int.mul_one]
  unfold IvG
  exact ⟨_, _, _, _, _, _, q + 1, _, _, _, _, _, _, _, _, rfl, rfl, by omega, by omega, by omega, by omega, by omega, fun h => by have := rq (by omega); omega⟩
theorem ivg_skip {c d : Int} {jd rows k0 k mo si : Option Value} {r0 y0 r y q : Int} {i : Nat} {t0 u0 t u : Tok} (ey : y = y0 + d * q) (er : r = r0 - c * q) (q0 : 0 ≤ q) (q1 : q ≤ (i : Int)) (r0' : 0 ≤ r) (hc : ¬ c ≤ r) :
    IvG c d [jd, rows, some (.int r0 t0), some (.int y0 u0), k0, mo, si] (i + 1) [jd, rows, some (.int r t), some (.int y u), k, mo, si] := by
  unfold IvG
  exact ⟨_, _, _, _, _, _, q, _, _, _, _, _, _, _, _, rfl, rfl, ey, er, by omega, by omega, r0', fun h => by omega⟩
/-- the months' loop -/
@[irreducible] def IvS (zs : List Int) (vs₀ : List (Option Value)) (i : Nat) (vs : List (Option Value)) : Prop :=
  ∃ (jd rows yr k s0 s1 : Option Value) (r0 r mo : Int) (t0 u0 t u : Tok), vs₀ = [jd, rows, some (.int r0 t0), yr, k, some (.int 1 u0), s0] ∧ vs = [jd, rows, some (.int r t), yr, k, some (.int mo u), s1] ∧
    mo = 1 + (i : Int) ∧ r = r0 - (zs.take i).sum ∧ 0 ≤ r
theorem ivs_start {zs : List Int} {jd rows yr k s0 : Option Value} {r0 : Int} {t0 u0 : Tok} (h : 0 ≤ r0) : IvS zs [jd, rows, some (.int r0 t0), yr, k, some (.int 1 u0), s0] 0 [jd, rows, some (.int r0 t0), yr, k, some (.int 1 u0), s0] := by
  unfold IvS
  exact ⟨_, _, _, _, _, _, _, _, _, _, _, _, _, rfl, rfl, by omega, by simp, h⟩
theorem ivs_next {zs : List Int} {jd rows yr k s0 s1 : Option Value} {r0 r mo kk : Int} {i : Nat} {t0 u0 t u : Tok} (hk : zs[i]? = some kk) (hm : mo = 1 + (i : Int)) (hr : r = r0 - (zs.take i).sum) (h0 : ¬ r < kk) :
    IvS zs [jd, rows, some (.int r0 t0), yr, k, some (.int 1 u0), s0] (i + 1) [jd, rows, some (.int (r - kk) t), yr, k, some (.int (mo + 1) u), s1] := by
  unfold IvS
  refine ⟨_, _, _, _, _, _, _, _, _, _, _, _, _, rfl, rfl, by omega, ?_, by omega⟩
  rw [List.take_add_one, hk]; simp; omega
local macro_rules | `(tactic| ktr_rel) => `(tactic| first | ((with_reducible show IvG _ _ _ _ _); first | exact ivg_take (by with_reducible assumption) (by with_reducible assumption) (by with_reducible assumption) (by with_reducible assumption) (by with_reducible assumption) (by with_reducible assumption) | exact ivg_skip (by with_reducible assumption) (by with_reducible assumption) (by with_reducible assumption) (by with_reducible assumption) (by with_reducible assumption) (by with_reducible assumption)) | ((with_reducible show IvS _ _ _ _); exact ivs_next (by with_reducible assumption) (by with_reducible assumption) (by with_reducible assumption) (by with_reducible assumption)))
-- a loop of _law_gregorian over range(n)
local macro_rules | `(tactic| cell_ask $iv:term) => `(tactic| (
  k_dflt (refine' $iv ?hh ?hr ?hs ?hn ?F ?N ?h0 ?turn ?done)
  (case hh => exact rfl)
  (case hr => assumption)
  (case hs => decide)
  (case hn => decide)
  (case F => k_asm)
  (case N => k_asm)
  (case h0 => exact ivg_start (by omega))
  (case' turn =>
    intro I' i' vs' t' h' tk' hI' hi' hv' F' N'
    unfold IvG at hv'
    obtain ⟨jd', rows', ra', ya', r', y', q', ka', k', mo', si', ta', ua', tb', ub', e0', e1', ey', er', qa', qb', rb', rq'⟩ := hv'
    k_dflt (cases e0')
    subst e1'
    have F'' := frPut F' (by with_reducible assumption) (by with_reducible ktn_open)
    clear F'
    (try k_sweep)
    (try k_fold))
  (case' done =>
    intro vs' h' tk' hv' F' N'
    unfold IvG at hv'
    obtain ⟨jd', rows', ra', ya', r', y', q', ka', k', mo', si', ta', ua', tb', ub', e0', e1', ey', er', qa', qb', rb', rq'⟩ := hv'
    k_dflt (cases e0')
    subst e1'
    (try k_sweep)
    (try k_fold))))
-- the loop over the months' sizes
local macro_rules | `(tactic| ktr_call $x:term $iv:term) => `(tactic| (
  k_dflt (refine' $iv ?hh ?F ?N ?hm ?hi ?h0 ?turn ?done)
  (case hh => exact rfl)
  (case F => k_asm)
  (case N => k_asm)
  (case hm => k_mem)
  (case hi => assumption)
  (case h0 => exact ivs_start (by assumption))
  (case' turn =>
    intro I' it' i' k' vs' t' h' tk' hI' hk' hv' F' N'
    unfold IvS at hv'
    obtain ⟨jd', rows', yr', kk', sa', sb', ra', r', mo', ta', ua', tb', ub', e0', e1', em', er', rb'⟩ := hv'
    k_dflt (cases e0')
    subst e1'
    have F'' := frPut F' (by with_reducible assumption) (by with_reducible ktn_open)
    clear F'
    (try k_sweep)
    (try k_fold))
  (case' done =>
    intro vs' h' tk' hv' F' N'
    unfold IvS at hv'
    obtain ⟨jd', rows', yr', kk', sa', sb', ra', r', mo', ta', ua', tb', ub', e0', e1', em', er', rb'⟩ := hv'
    k_dflt (cases e0')
    subst e1'
    (try k_sweep)
    (try k_fold))))
local macro_rules | `(tactic| walk_at "pyIter ref") => `(tactic| k_dflt (k_here; (with_reducible show wpAny _ _ (pyIter (Value.ref _)) _ _ _); first
  | ((rename Fr _ _ _ (mapOf _ [_, _, _, _, none, none, none]) => hX'); cell_ask (range_invM 3 (IvG 36524 100)))
  | ((rename IsRange _ _ 0 24 1 _ _ _ => hX'); cell_ask (range_invM 24 (IvG 1461 4)))
  | ((rename IsRange _ _ 0 3 1 _ _ _ => hX'); cell_ask (range_invM 3 (IvG 365 1)))
  | ktr_call 0 (list_invM IvS)))
local macro_rules | `(tactic| walk_at "call ref") => `(tactic| ktr_call 130 (c_long _ _))
local macro_rules | `(tactic| walk_at "call ref") => `(tactic| ktr_call 137 (c_sizes _))
set_option maxRecDepth 100000 in
set_option maxHeartbeats 1000000 in
theorem c_lawG (jd : Int) (ty : Tok) : CallsTo 2 123 [.int jd ty] (RT (IsDate jd)) := by
  unfold CallsTo
  k_fill
  w_top off
  intro w mean mg mb dp un gd cn cs a' ccd cl outer A₀ base h₀ L fm news s Q E B F X N T hk hd hu hret
  cell_end ["jd"] ["rows", "rest", "year", "k", "month", "size"] ["divmod", "range", "_law_sizes", "_law_long"]
  k_steps
  all_goals (
    have hy := lawG_year (by assumption) (by assumption) rfl (by assumption) (by assumption) (by assumption) (by assumption) (by assumption) (by assumption)
      (by assumption) (by assumption) (by assumption) (by assumption) (by assumption) (by assumption) (by assumption) (by assumption) (by assumption) (by assumption) (by assumption) (by assumption)
    (rename (_ = sizesOf _) => hz)
    subst hz
    first
    | exact (lawG_no hy (by assumption) (by assumption) (by assumption)).elim
    | (refine' ret_RT hret ?y1 ?y2 ?y3 ?_
       (case y1 => assumption)
       (case y2 => assumption)
       (case y3 => intro p h; repeat (first | exact h | refine List.mem_cons_of_mem _ ?_))
       refine' lawG_fin hy ?x1 ?x2 ?x3 ?x4 ?x5 ?x6
       (case x1 => assumption)
       (case x2 => assumption)
       (case x3 => assumption)
       (case x4 => assumption)
       (case x5 => assumption)
       (case x6 => assumption)))
end
section
/-- the law's January 1 and Sunday -/
theorem jan_fin {y q r u v : Int} (h1 : q = (y - 1) / 400) (h2 : r = (y - 1) % 400) (h3 : u = r / 4) (h4 : v = r / 100) : 1721426 + 146097 * q + 365 * r + u - v = J0 y := by
  have e1 : (y - 1) / 4 = 100 * q + u := by omega
  have e2 : (y - 1) / 100 = 4 * q + v := by omega
  unfold J0; rw [e1, e2, ← h1]; omega
set_option maxRecDepth 100000 in
set_option maxHeartbeats 1000000 in
theorem c_jan (y : Int) (ty : Tok) : CallsTo 1 144 [.int y ty] (RI (fun v => v = J0 y)) := by
  unfold CallsTo
  k_fill
  w_top off
  intro w mean mg mb dp un gd cn cs a' ccd cl outer A₀ base h₀ L fm news s Q E B F X N T hk hd hu hret
  cell_end ["year"] ["rows", "past"] ["divmod"]
  k_steps
  all_goals (refine ret_sub hret [] (RI.of ?_) (by assumption) (by assumption) (fun p hp => by repeat (first | exact hp | refine List.mem_cons_of_mem _ ?_)))
  all_goals exact jan_fin (by assumption) (by assumption) (by assumption) (by assumption)
@[irreducible] def IvD (vs₀ : List (Option Value)) (i : Nat) (vs : List (Option Value)) : Prop :=
  ∃ (jd : Int) (t : Tok) (k0 k1 : Option Value), vs₀ = [some (.int jd t), k0] ∧ vs = [some (.int jd t), k1] ∧ ∀ m : Int, 1 ≤ m → m ≤ (i : Int) → (jd + m) % 7 ≠ 6
theorem ivd_start {jd : Int} {t : Tok} {k0 : Option Value} : IvD [some (.int jd t), k0] 0 [some (.int jd t), k0] := by
  unfold IvD
  exact ⟨_, _, _, _, rfl, rfl, fun m h1 h2 => by omega⟩
theorem ivd_next {jd v : Int} {t : Tok} {k0 k1 : Option Value} {i : Nat} (h : ∀ m : Int, 1 ≤ m → m ≤ (i : Int) → (jd + m) % 7 ≠ 6) (hv : v = (jd + (1 + (i : Int))) % 7) (h6 : v ≠ 6) : IvD [some (.int jd t), k0] (i + 1) [some (.int jd t), k1] := by
  unfold IvD
  refine ⟨_, _, _, _, rfl, rfl, fun m h1 h2 => ?_⟩
  by_cases hm : m ≤ (i : Int)
  · exact h m h1 hm
  · have : m = 1 + (i : Int) := by omega
    rw [this, ← hv]; exact h6
theorem sun_no {jd : Int} (h : ∀ m : Int, 1 ≤ m → m ≤ ((7 : Nat) : Int) → (jd + m) % 7 ≠ 6) : False := by
  have h1 := h 1 (by omega) (by omega)
  have h2 := h 2 (by omega) (by omega)
  have h3 := h 3 (by omega) (by omega)
  have h4 := h 4 (by omega) (by omega)
  have h5 := h 5 (by omega) (by omega)
  have h6 := h 6 (by omega) (by omega)
  have h7 := h 7 (by omega) (by omega)
  omega
local macro_rules | `(tactic| ktr_rel) => `(tactic| ((with_reducible show IvD _ _ _); exact ivd_next (by with_reducible assumption) (by with_reducible assumption) (by with_reducible assumption)))
local macro_rules | `(tactic| cell_ask $iv:term) => `(tactic| (
  k_dflt (refine' $iv ?hh ?hr ?hs ?hn ?F ?N ?h0 ?turn ?done)
  (case hh => exact rfl)
  (case hr => assumption)
  (case hs => decide)
  (case hn => decide)
  (case F => k_asm)
  (case N => k_asm)
  (case h0 => exact ivd_start)
  (case' turn =>
    intro I' i' vs' t' h' tk' hI' hi' hv' F' N'
    unfold IvD at hv'
    obtain ⟨jd', ta', ka', kb', e0', e1', hq'⟩ := hv'
    k_dflt (cases e0')
    subst e1'
    have F'' := frPut F' (by with_reducible assumption) (by with_reducible ktn_open)
    clear F'
    (try k_sweep)
    (try k_fold))
  (case' done =>
    intro vs' h' tk' hv' F' N'
    unfold IvD at hv'
    obtain ⟨jd', ta', ka', kb', e0', e1', hq'⟩ := hv'
    exact (sun_no hq').elim)))
local macro_rules | `(tactic| walk_at "pyIter ref") => `(tactic| k_dflt (k_here; (with_reducible show wpAny _ _ (pyIter (Value.ref _)) _ _ _); cell_ask (range_invM 7 IvD)))
set_option maxRecDepth 100000 in
set_option maxHeartbeats 1000000 in
theorem c_sunday (jd : Int) (ty : Tok) : CallsTo 1 151 [.int jd ty] (RI (SunB jd)) := by
  unfold CallsTo
  k_fill
  w_top off
  intro w mean mg mb dp un gd cn cs a' ccd cl outer A₀ base h₀ L fm news s Q E B F X N T hk hd hu hret
  cell_end ["jd"] ["k"] ["range"]
  k_steps
  all_goals (refine ret_sub hret [] (RI.of ?_) (by assumption) (by assumption) (fun p hp => by repeat (first | exact hp | refine List.mem_cons_of_mem _ ?_)))
  all_goals (unfold SunB; omega)
set_option maxRecDepth 100000 in
set_option maxHeartbeats 1000000 in
theorem c_julMarch (y : Int) (ty : Tok) : CallsTo 1 165 [.int y ty] (RI (fun v => ∃ q r : Int, q = (y - 1) / 4 ∧ r = (y - 1) % 4 ∧ ((y % 4 = 0 ∧ v = 1721424 + 1461 * q + 365 * r + 31 + 29) ∨ (y % 4 ≠ 0 ∧ v = 1721424 + 1461 * q + 365 * r + 31 + 28)))) := by
  unfold CallsTo
  k_fill
  w_top off
  intro w mean mg mb dp un gd cn cs a' ccd cl outer A₀ base h₀ L fm news s Q E B F X N T hk hd hu hret
  cell_end ["year"] ["rows", "past"] ["divmod"]
  k_steps
  all_goals (refine ret_sub hret [] (RI.of ?_) (by assumption) (by assumption) (fun p hp => by repeat (first | exact hp | refine List.mem_cons_of_mem _ ?_)))
  all_goals (refine ⟨_, _, by assumption, by assumption, ?_⟩; omega)
end
section
@[irreducible] def IvW (vs₀ : List (Option Value)) (i : Nat) (vs : List (Option Value)) : Prop :=
  ∃ (y g h0 h1 p m : Option Value) (e0 e : Int) (t0 t : Tok), vs₀ = [y, g, some (.int e0 t0), h0, p, m] ∧ vs = [y, g, some (.int e t), h1, p, m] ∧ e = e0 - EpA (16 + (i : Int)) + EpB (16 + (i : Int))
theorem ivw_start {y g h0 p m : Option Value} {e0 : Int} {t0 : Tok} : IvW [y, g, some (.int e0 t0), h0, p, m] 0 [y, g, some (.int e0 t0), h0, p, m] := by
  unfold IvW
  exact ⟨_, _, _, _, _, _, _, _, _, _, rfl, rfl, by unfold EpA EpB; omega⟩
theorem ivw_mk {y g h0 h1 p m : Option Value} {e0 e' : Int} {t0 t : Tok} {i : Nat} (hw : e' = e0 - EpA (16 + (i : Int) + 1) + EpB (16 + (i : Int) + 1)) : IvW [y, g, some (.int e0 t0), h0, p, m] (i + 1) [y, g, some (.int e' t), h1, p, m] := by
  unfold IvW
  exact ⟨_, _, _, _, _, _, _, _, _, _, rfl, rfl, by rw [hw, show 16 + (((i + 1 : Nat)) : Int) = 16 + (i : Int) + 1 by omega]⟩
theorem hv_cast {v i : Int} {k : Int} (h : v = (17 + i) % k) : v = (16 + i + 1) % k := by rw [h]; congr 1; omega
theorem hu_cast {v i : Int} {k : Int} (h : v = (17 + i - 18) % k) : v = (16 + i + 1 - 18) % k := by rw [h]; congr 1; omega
theorem hn_or {u : Int} (h : ¬u = 0 ∧ ¬u = 3 ∧ ¬u = 6 ∧ ¬u = 9 ∧ ¬u = 12 ∧ ¬u = 15 ∧ ¬u = 18 ∧ ¬u = 21) : ¬ (u = 0 ∨ u = 3 ∨ u = 6 ∨ u = 9 ∨ u = 12 ∨ u = 15 ∨ u = 18 ∨ u = 21) := by omega
local macro_rules | `(tactic| ktr_rel) => `(tactic| ((with_reducible show IvW _ _ _); refine ivw_mk ?_; first
  | exact ep_step1 (by assumption) (hv_cast (by assumption)) (by assumption) (hu_cast (by assumption)) (by assumption)
  | exact ep_step2 (by assumption) (hv_cast (by assumption)) (by assumption) (hu_cast (by assumption)) (hn_or (by assumption))
  | exact ep_step3 (by assumption) (hv_cast (by assumption)) (by assumption) (hu_cast (by assumption)) (by assumption)
  | exact ep_step4 (by assumption) (hv_cast (by assumption)) (by assumption) (hu_cast (by assumption)) (hn_or (by assumption))))
local macro_rules | `(tactic| cell_ask $iv:term) => `(tactic| (
  k_dflt (refine' $iv ?hh ?hr ?hs (range_size _ _) ?F ?N ?h0 ?turn ?done)
  (case hh => exact rfl)
  (case hr => assumption)
  (case hs => exact range_small (by omega) (by omega) (by omega) (by omega))
  (case F => k_asm)
  (case N => k_asm)
  (case h0 => exact ivw_start)
  (case' turn =>
    intro I' i' vs' t' h' tk' hI' hi' hv' F' N'
    unfold IvW at hv'
    obtain ⟨y', g', ha', hb', p', m', ea', e', ta', tb', e0', e1', hq'⟩ := hv'
    k_dflt (cases e0')
    subst e1'
    have F'' := frPut F' (by with_reducible assumption) (by with_reducible ktn_open)
    clear F'
    (try k_sweep)
    (try k_fold))
  (case' done =>
    intro vs' h' tk' hv' F' N'
    unfold IvW at hv'
    obtain ⟨y', g', ha', hb', p', m', ea', e', ta', tb', e0', e1', hq'⟩ := hv'
    k_dflt (cases e0')
    subst e1'
    (try k_sweep)
    (try k_fold))))
local macro_rules | `(tactic| walk_at "pyIter ref") => `(tactic| k_dflt (k_here; (with_reducible show wpAny _ _ (pyIter (Value.ref _)) _ _ _); cell_ask (range_invM (Int.toNat _) IvW)))
local macro_rules | `(tactic| walk_at "call ref") => `(tactic| ktr_call 130 (c_long _ _))
local macro_rules | `(tactic| walk_at "call ref") => `(tactic| ktr_call 137 (c_sizes _))
local macro_rules | `(tactic| walk_at "call ref") => `(tactic| ktr_call 144 (c_jan _ _))
local macro_rules | `(tactic| walk_at "call ref") => `(tactic| ktr_call 151 (c_sunday _ _))
local macro_rules | `(tactic| walk_at "call ref") => `(tactic| ktr_call 123 (c_lawG _ _))
def WestOk (year s : Int) : Prop := ∃ p b : Int, PastOk year p ∧ ((LeapG year ∧ b = 60) ∨ (¬ LeapG year ∧ b = 59)) ∧ SunB (J0 year + b + p - 1) s
theorem west1 {y v19 c e' v x past i s : Int} {b : Bool} (h19 : v19 = y % 19) (hc : c = y / 100) (hlo : 1583 ≤ y) (he : e' = 1 + 11 * (v19 + 1 - 1) - EpA (16 + ((c + 1 - 17).toNat : Int)) + EpB (16 + ((c + 1 - 17).toNat : Int))) (hv : v = e' % 30)
    (hi : i = J0 y) (hl : (LeapG y ∧ b = true) ∨ (¬ LeapG y ∧ b = false)) (hs : SunB (i + ((sizesOf b).take (2 : Int).toNat).sum + past - 1) s)
    (hx : ((v = 24 ∨ (v = 25 ∧ 11 < v19 + 1)) ∧ x = v + 1) ∨ (¬ (v = 24 ∨ (v = 25 ∧ 11 < v19 + 1)) ∧ x = v)) (hp : (44 - x < 21 ∧ past = 44 - x + 30) ∨ (¬ 44 - x < 21 ∧ past = 44 - x)) : WestOk y s := by
  have hee := ep_end (c := c) (by omega)
  rw [hee.1, hee.2, hc] at he
  subst h19
  refine ⟨past, if b = true then 60 else 59, ⟨v, x, ?_, hx, hp⟩, ?_, ?_⟩
  · rw [hv, he]; congr 2; congr 1; omega
  · rcases hl with ⟨hl, rfl⟩ | ⟨hl, rfl⟩
    · exact .inl ⟨hl, rfl⟩
    · exact .inr ⟨hl, rfl⟩
  · rw [← hi]
    cases b
    · exact hs
    · exact hs
theorem sizes_fit {zs : List Int} {b : Bool} (h : zs = sizesOf b) : zs.length ≤ sizeLine := by
  subst h; rw [sizeLine_eq]; simp [sizesOf]
local macro_rules | `(tactic| walk_at "subscriptTail Name Slice ref ref") => `(tactic| k_dflt (k_here; (with_reducible show wpAny _ _ (subscriptTail _ (PySem.Expr.Slice _ _ none _) (Value.ref _) (Value.ref _)) _ _ _); (refine' kmk_slice_ints (s := ⟨_, _, _, _, _⟩) ?F ?N ?l ?p ?q ?i ?m ?c ?_ ?s ?t ?z; (case F => k_asm); (case N => k_asm); (case l => kmk_list); (case p => kmk_part); (case q => kmk_part); (case i => with_reducible assumption); (case m => exact kmk_upto (by with_reducible assumption) (by decide)); (case c => exact rfl); (case s => with_unfolding_all rfl); (case t => kmk_pure); (case z => exact kmk_sz (by with_reducible assumption) (sizes_fit (by with_reducible assumption)))); intro D' ws' h' F' N' l1 hI' hC' hL'; (try k_lt l1); (try k_sweep)))
set_option maxRecDepth 100000 in
set_option maxHeartbeats 1000000 in
theorem c_lawWest (y : Int) (ty : Tok) (hlo : 1583 ≤ y) (hhi : y ≤ 60000) : CallsTo 3 158 [.int y ty] (RT (fun yy mm dd => ∃ s, WestOk y s ∧ IsDate s yy mm dd)) := by
  unfold CallsTo
  k_fill
  w_top off
  intro w mean mg mb dp un gd cn cs a' ccd cl outer A₀ base h₀ L fm news s Q E B F X N T hk hd hu hret
  cell_end ["year"] ["golden", "epact", "hundred", "past", "march"] ["range", "_law_january", "sum", "_law_sizes", "_law_long", "_law_gregorian", "_law_sunday"]
  k_steps
  all_goals (
    (rename (_ = sizesOf _) => hz)
    subst hz
    refine' ret_RT hret ?y1 ?y2 ?y3 ⟨_, ?y4, ?y5⟩
    (case y1 => assumption)
    (case y2 => assumption)
    (case y3 => intro p h; repeat (first | exact h | refine List.mem_cons_of_mem _ ?_))
    (case y5 => assumption)
    (case y4 =>
      refine' west1 ?z1 ?z2 ?z3 ?z4 ?z5 ?z6 ?z7 ?z8 ?z9 ?z10
      (case z1 => assumption)
      (case z2 => assumption)
      (case z3 => assumption)
      (case z5 => assumption)
      (case z4 => assumption)
      (case z6 => assumption)
      (case z7 => assumption)
      (case z8 => assumption)
      (case z9 => first | exact .inl ⟨.inl (by assumption), rfl⟩ | exact .inl ⟨.inr ⟨by assumption, by assumption⟩, rfl⟩ | exact .inr ⟨by omega, rfl⟩)
      (case z10 => first | exact .inl ⟨by assumption, rfl⟩ | exact .inr ⟨by assumption, rfl⟩)))
end
section
-- the julian calendar
def LenJ (y m n : Int) : Prop := (m = 2 ∧ y % 4 = 0 ∧ n = 29) ∨ (m = 2 ∧ y % 4 ≠ 0 ∧ n = 28) ∨ ((m = 4 ∨ m = 6 ∨ m = 9 ∨ m = 11) ∧ n = 30) ∨ ((m ≠ 2 ∧ m ≠ 4 ∧ m ≠ 6 ∧ m ≠ 9 ∧ m ≠ 11) ∧ n = 31)
set_option maxRecDepth 100000 in
set_option maxHeartbeats 1000000 in
theorem c_leapJ (y : Int) (ty : Tok) : CallsTo 1 58 [.int y ty] (RB (y % 4 = 0)) := by
  unfold CallsTo
  k_fill
  w_top off
  intro w mean mg mb dp un gd cn cs a' ccd cl outer A₀ base h₀ L fm news s Q E B F X N T hk hd hu hret
  cell_end ["year"] [] []
  k_steps
  all_goals (refine ret_sub hret [] (RB.of ?_) (by assumption) (by assumption) (fun p hp => hp))
  all_goals (simp only [beq_iff_eq]; omega)
local macro_rules | `(tactic| walk_at "call ref") => `(tactic| ktr_call 58 (c_leapJ _ _))
set_option maxRecDepth 100000 in
set_option maxHeartbeats 1000000 in
theorem c_monthJ (y m : Int) (t1 t2 : Tok) : CallsTo 2 65 [.int y t1, .int m t2] (RI (LenJ y m)) := by
  unfold CallsTo
  k_fill
  w_top off
  intro w mean mg mb dp un gd cn cs a' ccd cl outer A₀ base h₀ L fm news s Q E B F X N T hk hd hu hret
  cell_end ["year", "month"] ["daysinmonth"] ["leap", "HAVE_30_DAYS_julian"]
  k_steps
  all_goals (refine ret_sub hret [] (RI.of ?_) (by assumption) (by assumption) (fun p hp => hp))
  all_goals (unfold LenJ)
  all_goals first
    | exact .inl ⟨by assumption, by assumption, rfl⟩
    | exact .inr (.inl ⟨by assumption, by assumption, rfl⟩)
    | exact .inr (.inr (.inl ⟨by assumption, rfl⟩))
    | exact .inr (.inr (.inr ⟨⟨by assumption, by assumption⟩, rfl⟩))
    | (unfold LenJ at *; omega)
theorem calls_mono {D : Nat} {f : Addr} {vs : List Value} {R R' : (List (Addr × Obj)) → Value → Prop} (C : CallsTo D f vs R) (h : ∀ nw v, R nw v → R' nw v) : CallsTo D f vs R' := by
  unfold CallsTo
  intro w mean mg mb dp un gd cn cs a' ccd cl outer A₀ base h₀ L fm news s Q E B F X N T hk hd hu hret
  exact C _ _ _ _ _ _ _ _ _ _ _ _ _ _ _ _ _ _ _ _ _ _ B F X N T hk hd hu (fun nw v h' tk' r => hret nw v h' tk' (h nw v r))
theorem c_monthJd (y m d : Int) (t1 t2 : Tok) (hL : ∀ n, LenJ y m n → d ≤ n) : CallsTo 2 65 [.int y t1, .int m t2] (RI (fun n => d ≤ n)) :=
  calls_mono (c_monthJ y m t1 t2) (fun nw v ⟨a, i, t, b, c⟩ => ⟨a, i, t, b, hL i c⟩)
local macro_rules | `(tactic| walk_at "call ref") => `(tactic| ktr_call 65 (c_monthJd _ _ _ _ _ (by assumption)))
set_option maxRecDepth 100000 in
set_option maxHeartbeats 1000000 in
theorem c_legalJ (y m d : Int) (t1 t2 t3 : Tok) (h0 : 0 < d) (hL : ∀ n, LenJ y m n → d ≤ n) : CallsTo 3 72 [.int y t1, .int m t2, .int d t3] (RB True) := by
  unfold CallsTo
  k_fill
  w_top off
  intro w mean mg mb dp un gd cn cs a' ccd cl outer A₀ base h₀ L fm news s Q E B F X N T hk hd hu hret
  cell_end ["year", "month", "day"] ["daysinmonth"] ["month_length", "ValueError"]
  k_steps
  all_goals (refine ret_sub hret [] (RB.ofT trivial) (by assumption) (by assumption) (fun p hp => hp))
local macro_rules | `(tactic| walk_at "call ref") => `(tactic| ktr_call 72 (c_legalJ _ _ _ _ _ _ (by assumption) (by assumption)))
set_option maxRecDepth 100000 in
set_option maxHeartbeats 1000000 in
theorem c_toJdJ (y m d : Int) (t1 t2 t3 : Tok) (h0 : 0 < d) (hL : ∀ n, LenJ y m n → d ≤ n) (hm : 2 < m) : CallsTo 4 79 [.int y t1, .int m t2, .int d t3] (RI (fun v => v = 1461 * (y + 4716) / 4 + 306001 * (m + 1) / 10000 + d - 1524)) := by
  unfold CallsTo
  k_fill
  w_top off
  intro w mean mg mb dp un gd cn cs a' ccd cl outer A₀ base h₀ L fm news s Q E B F X N T hk hd hu hret
  cell_end ["year", "month", "day"] [] ["legal_date_julian"]
  k_steps
  all_goals (refine ret_sub hret [] (RI.of ?_) (by assumption) (by assumption) (fun p hp => hp))
  all_goals omega
local macro_rules | `(tactic| walk_at "call ref") => `(tactic| ktr_call 79 (c_toJdJ _ _ _ _ _ _ (by assumption) (by assumption) (by assumption)))
local macro_rules | `(tactic| walk_at "call ref") => `(tactic| ktr_call 50 (c_fromJd _ _))
set_option maxRecDepth 100000 in
set_option maxHeartbeats 1000000 in
theorem c_toGreg (y m d : Int) (t1 t2 t3 : Tok) (h0 : 0 < d) (hL : ∀ n, LenJ y m n → d ≤ n) (hm : 2 < m) : CallsTo 5 86 [.int y t1, .int m t2, .int d t3] (RT (IsDate (1461 * (y + 4716) / 4 + 306001 * (m + 1) / 10000 + d - 1524))) := by
  unfold CallsTo
  k_fill
  w_top off
  intro w mean mg mb dp un gd cn cs a' ccd cl outer A₀ base h₀ L fm news s Q E B F X N T hk hd hu hret
  cell_end ["year", "month", "day"] [] ["from_jd", "to_jd_julian"]
  k_steps
  all_goals (
    refine' ret_RT hret ?y1 ?y2 ?y3 ?y4
    (case y1 => assumption)
    (case y2 => assumption)
    (case y3 => intro p h; repeat (first | exact h | refine List.mem_cons_of_mem _ ?_))
    (case y4 => (rename (_ = 1461 * (y + 4716) / 4 + 306001 * (m + 1) / 10000 + d - 1524) => he); rw [← he]; assumption))
end
section
-- the function's own western Easter
theorem c_truncP (a b : Int) (ta tb : Tok) (ha : 0 ≤ a) (hb : 0 < b) (hs : b < 1073741824) : CallsTo 1 28 [.int a ta, .int b tb] (RI (fun v => v = a / b ∧ 0 ≤ v ∧ v ≤ a)) :=
  calls_mono (c_trunc a b ta tb hb hs) (fun nw v ⟨h1, i, t, h2, h3⟩ => ⟨h1, i, t, h2, h3.1 ha, by rw [h3.1 ha]; exact Int.ediv_nonneg ha (by omega), by rw [h3.1 ha]; exact Int.ediv_le_self b ha⟩)
local macro_rules | `(tactic| walk_at "call ref") => `(tactic| (ktr_call 28 (c_trunc _ _ _ _ (by first | decide | omega) (by first | decide | omega)); (rename TruncV _ _ _ => hT'); unfold TruncV at hT'))
local macro_rules | `(tactic| walk_at "call ref") => `(tactic| ktr_call 28 (c_truncP _ _ _ _ (by omega) (by first | decide | omega) (by first | decide | omega)))
def WestF (y mm dd : Int) : Prop := ∃ s, WestOk y s ∧ IsDate s y mm dd
theorem west_all {y c q k a4 t3 t30 i0 i1 i2 t28 t28b t29 t11 y4 c4 j0 t7 L t44 m4 : Int} (hlo : 1583 ≤ y) (hc : c = y / 100) (hq : q = y / 19) (hk : (0 ≤ c - 17 → k = (c - 17) / 25) ∧ (c - 17 < 0 → k = -(-(c - 17) / 25)))
    (h4 : a4 = c / 4) (h3 : t3 = (c - k) / 3) (h30 : t30 = i0 / 30) (h0 : i0 = c - a4 - t3 + 19 * (y - 19 * q) + 15) (h28 : t28 = i1 / 28) (h1 : i1 = i0 - 30 * t30) (h28b : t28b = i1 / 28) (h29 : t29 = 29 / (i1 + 1))
    (h11 : t11 = (21 - (y - 19 * q)) / 11) (hy4 : y4 = y / 4) (hc4 : c4 = c / 4) (ht7 : 0 ≤ j0 → t7 = j0 / 7) (hj0 : j0 = y + y4 + i2 + 2 - c + c4) (h2 : i2 = i1 - t28 * (1 - t28b * t29 * t11))
    (h44 : 0 ≤ L + 40 → t44 = (L + 40) / 44) (hL : L = i2 - (j0 - 7 * t7)) (hm4 : 0 ≤ 3 + t44 → m4 = (3 + t44) / 4) : WestF y (3 + t44) (L + 28 - 31 * m4) := by
  obtain ⟨e, he, hie, he0⟩ := west_epact hlo hc hq hk h4 h3 h0 h30 h1
  have hn : y % 19 = y - 19 * q := by omega
  obtain ⟨hi0, hi28, hp⟩ := west_past (i2 := i2) he hie he0 h28 h28b h29 (by rw [hn]; exact h11) h2
  have hj : 0 ≤ j0 := by omega
  have ht7 := ht7 hj
  have hLr : -6 ≤ L := by omega
  have h44 := h44 (by omega)
  have hm4 := hm4 (by omega)
  have hex : ∃ b : Int, (LeapG y ∧ b = 60) ∨ (¬ LeapG y ∧ b = 59) := by
    by_cases hl : LeapG y
    · exact ⟨60, .inl ⟨hl, rfl⟩⟩
    · exact ⟨59, .inr ⟨hl, rfl⟩⟩
  obtain ⟨b, hb⟩ := hex
  obtain ⟨s, hs, hd⟩ := west_date hc ⟨hi0, hi28⟩ (by rw [hj0, hy4, hc4]) ht7 hL h44 rfl hm4 rfl hb
  exact ⟨s, ⟨i2 + 21, b, hp, hb, hs⟩, hd⟩
set_option maxRecDepth 100000 in
set_option maxHeartbeats 1000000 in
theorem c_west (y : Int) (ty : Tok) (hlo : 1583 ≤ y) (hhi : y ≤ 60000) : CallsTo 2 101 [.int y ty] (RT (fun yy mm dd => yy = y ∧ WestF y mm dd)) := by
  unfold CallsTo
  k_fill
  w_top off
  intro w mean mg mb dp un gd cn cs a' ccd cl outer A₀ base h₀ L fm news s Q E B F X N T hk hd hu hret
  cell_end ["year"] ["c", "n", "k", "i", "j", "L", "month", "day", "date"] ["trunc", "int"]
  k_steps
  all_goals (
    refine' ret_RT hret ?y1 ?y2 ?y3 ⟨rfl, ?y4⟩
    (case y1 => assumption)
    (case y2 => assumption)
    (case y3 => intro p h; repeat (first | exact h | refine List.mem_cons_of_mem _ ?_))
    refine' west_all hlo ?hc ?hq ?hk ?h4 ?h3 ?h30 ?h0 ?h28 ?h1 ?h28b ?h29 ?h11 ?hy4 ?hc4 ?ht7 ?hj0 ?h2 ?h44 ?hL ?hm4
    (case h44 => first | exact And.left (by assumption) | exact fun _ => And.left (by assumption))
    (case hL => exact rfl)
    (case ht7 => first | exact And.left (by assumption) | exact fun _ => And.left (by assumption))
    (case hj0 => exact rfl)
    (case h2 => exact rfl)
    (case h1 => exact rfl)
    (case h0 => exact rfl)
    (case hm4 => first | exact And.left (by assumption) | exact fun _ => And.left (by assumption))
    (case hk => assumption)
    (case hc => exact And.left (by assumption))
    (case hq => exact And.left (by assumption))
    (case h4 => exact And.left (by assumption))
    (case h3 => exact And.left (by assumption))
    (case h30 => exact And.left (by assumption))
    (case h28 => exact And.left (by assumption))
    (case h28b => exact And.left (by assumption))
    (case h29 => exact And.left (by assumption))
    (case h11 => exact And.left (by assumption))
    (case hy4 => exact And.left (by assumption))
    (case hc4 => exact And.left (by assumption)))
end
section
set_option maxRecDepth 100000 in
set_option maxHeartbeats 1000000 in
theorem c_moon (y : Int) (ty : Tok) : CallsTo 1 172 [.int y ty] (RI (fun v => v = (19 * (y % 19) + 15) % 30 + 21)) := by
  unfold CallsTo
  k_fill
  w_top off
  intro w mean mg mb dp un gd cn cs a' ccd cl outer A₀ base h₀ L fm news s Q E B F X N T hk hd hu hret
  cell_end ["year"] [] []
  k_steps
  all_goals (refine ret_sub hret [] (RI.of ?_) (by assumption) (by assumption) (fun p hp => by repeat (first | exact hp | refine List.mem_cons_of_mem _ ?_)))
  all_goals exact moon_fin (by assumption)
local macro_rules | `(tactic| walk_at "call ref") => `(tactic| ktr_call 165 (c_julMarch _ _))
local macro_rules | `(tactic| walk_at "call ref") => `(tactic| ktr_call 172 (c_moon _ _))
local macro_rules | `(tactic| walk_at "call ref") => `(tactic| ktr_call 151 (c_sunday _ _))
local macro_rules | `(tactic| walk_at "call ref") => `(tactic| ktr_call 123 (c_lawG _ _))
theorem lawOld_fin {y m i later s : Int} (hm : ∃ q r : Int, q = (y - 1) / 4 ∧ r = (y - 1) % 4 ∧ ((y % 4 = 0 ∧ m = 1721424 + 1461 * q + 365 * r + 31 + 29) ∨ (y % 4 ≠ 0 ∧ m = 1721424 + 1461 * q + 365 * r + 31 + 28))) (hi : i = (19 * (y % 19) + 15) % 30 + 21) (hs : SunB (m + i - 1 + later) s) : OldOk y later s := by
  obtain ⟨q, r, h1, h2, h3⟩ := hm
  have : m = JMar y := by unfold JMar; omega
  unfold OldOk
  rw [← hi, ← this]; exact hs
set_option maxRecDepth 100000 in
set_option maxHeartbeats 1000000 in
theorem c_lawOld (y later : Int) (t1 t2 : Tok) : CallsTo 3 179 [.int y t1, .int later t2] (RT (OldF y later)) := by
  unfold CallsTo
  k_fill
  w_top off
  intro w mean mg mb dp un gd cn cs a' ccd cl outer A₀ base h₀ L fm news s Q E B F X N T hk hd hu hret
  cell_end ["year", "later"] [] ["_law_gregorian", "_law_sunday", "_law_julian_march", "_law_moon"]
  k_steps
  all_goals (
    refine' ret_RT hret ?y1 ?y2 ?y3 ⟨_, ?y4, ?y5⟩
    (case y1 => assumption)
    (case y2 => assumption)
    (case y3 => intro p h; repeat (first | exact h | refine List.mem_cons_of_mem _ ?_))
    (case y5 => assumption)
    (case y4 => refine' lawOld_fin ?z1 ?z2 ?z3; (case z3 => assumption); (case z2 => assumption); (case z1 => assumption)))
end
section
local macro_rules | `(tactic| walk_at "call ref") => `(tactic| (ktr_call 28 (c_trunc _ _ _ _ (by first | decide | omega) (by first | decide | omega)); (rename TruncV _ _ _ => hT'); unfold TruncV at hT'))
local macro_rules | `(tactic| walk_at "call ref") => `(tactic| ktr_call 28 (c_truncP _ _ _ _ (by omega) (by first | decide | omega) (by first | decide | omega)))
local macro_rules | `(tactic| walk_at "call ref") => `(tactic| ktr_call 101 (c_west _ _ (by omega) (by omega)))
local macro_rules | `(tactic| cell_step) => `(tactic| (refine wpAny_call ?_; k_dflt (refine' code_def ?k1 ?k2 ?k3 ?k4 ?k5 ?kA ?kF ?kK ?k6 ?k7 ?k8 ?k9 ?kB ?_ ?c2 ?c3 ?c4 ?c5; (case kA => exact rfl); (case kF => exact rfl); (case kK => assumption); (case k1 => k_asm); (case k2 => k_asm); (case k3 => k_asm); (case k4 => k_asm); (case k5 => k_asm); (case k6 => k_is); (case k7 => k_is); (case k8 => ktr_room); (case k9 => first | exact BindsTo.of_eq rfl | exact binds_K (by k_in) rfl (by k_is) rfl rfl rfl); (case c5 => decide); (case kB => exact locs rfl); (case c2 => exact rfl); (case c3 => exact rfl); (case c4 => exact rfl); k_whole; intro g' L' h' FG' F' N' B' X' T'; (try dsimp only); (try k_fold))))
theorem ej_mk {y m4 v4 v7 d e q r later x : Int} (hm : m4 = y % 19) (h4 : v4 = y % 4) (h7 : v7 = y % 7) (hd : d = (19 * m4 + 15) % 30) (hx : x = d + later) (hx2 : 0 ≤ x ∧ x ≤ 29) (he : e = (2 * v4 + 4 * v7 - x + 6) % 7) (hq : q = (113 + x + e + 1) / 31) (hr : r = (113 + x + e + 1) % 31) : EJ y later q (r + 1) :=
  ⟨x, e, by rw [hx, hd, hm], by rw [he, h4, h7], hq, by rw [hr], hx2.1, hx2.2⟩
set_option maxRecDepth 100000 in
set_option maxHeartbeats 1000000 in
theorem c_ej0 (y : Int) (ty : Tok) : CallsTo 2 109 [.int y ty] (RT (fun yy m d => yy = y ∧ EJ y 0 m d)) := by
  unfold CallsTo
  k_fill
  w_top off
  intro w mean mg mb dp un gd cn cs a' ccd cl outer A₀ base h₀ L fm news s Q E B F X N T hk hd hu hret
  cell_step
  k_steps
  all_goals (
    refine' ret_RT hret ?y1 ?y2 ?y3 ⟨rfl, ?y4⟩
    (case y1 => assumption)
    (case y2 => assumption)
    (case y3 => intro p h; repeat (first | exact h | refine List.mem_cons_of_mem _ ?_))
    (case y4 =>
      refine' ej_mk ?hm ?h4 ?h7 ?hd ?hx ?hx2 ?he ?hq ?hr
      (case hr => assumption)
      (case hq => exact And.left (by assumption))
      (case he => assumption)
      (case hm => assumption)
      (case h4 => assumption)
      (case h7 => assumption)
      (case hd => assumption)
      (case hx => omega)
      (case hx2 => omega)))
set_option maxRecDepth 100000 in
set_option maxHeartbeats 1000000 in
theorem c_ejE (y : Int) (ty tc : Tok) : CallsKw 2 109 [.int y ty] [(Str.ofString "mode", .str (Str.ofString "eastern") tc)] (RT (fun yy m d => yy = y ∧ EJ y (if y % 19 = 0 then 1 else 0) m d)) := by
  unfold CallsKw
  k_fill
  w_top off
  intro w mean mg mb dp un gd cn cs a' ccd cl outer A₀ base h₀ L fm news s Q E B F X N T hk hd hu hret
  cell_step
  k_steps
  all_goals (
    refine' ret_RT hret ?y1 ?y2 ?y3 ⟨rfl, ?y4⟩
    (case y1 => assumption)
    (case y2 => assumption)
    (case y3 => intro p h; repeat (first | exact h | refine List.mem_cons_of_mem _ ?_))
    (case y4 =>
      first | rw [if_pos (by omega)] | rw [if_neg (by omega)]
      refine' ej_mk ?hm ?h4 ?h7 ?hd ?hx ?hx2 ?he ?hq ?hr
      (case hr => assumption)
      (case hq => exact And.left (by assumption))
      (case he => assumption)
      (case hm => assumption)
      (case h4 => assumption)
      (case h7 => assumption)
      (case hd => assumption)
      (case hx => omega)
      (case hx2 => omega)))
local macro_rules | `(tactic| walk_at "call ref") => `(tactic| k_dflt (k_here; (with_reducible show wpAny _ _ (PySem.call (Value.ref 109) [_] _) _ _ _); (refine' calls_RTkw (c_ejE _ _ _) ?k1 ?k2 ?k3 ?k4 ?k5 ?kK ?kd ?ku ?_; (case k1 => k_asm); (case k2 => k_asm); (case k3 => k_asm); (case k4 => k_asm); (case k5 => k_asm); (case kK => first | exact rfl | assumption); (case kd => ktr_room); (case ku => ktr_units); intro y' m' d' hi' D' c' t1' t2' t3' h' tk' F' N'; (have hf' := ej_facts hi'.2); (try k_sweep); (try k_fold))))
local macro_rules | `(tactic| walk_at "call ref") => `(tactic| k_dflt (k_here; (with_reducible show wpAny _ _ (PySem.call (Value.ref 109) [_] []) _ _ _); (refine' calls_RT (c_ej0 _ _) ?k1 ?k2 ?k3 ?k4 ?k5 ?kK ?kd ?ku ?_; (case k1 => k_asm); (case k2 => k_asm); (case k3 => k_asm); (case k4 => k_asm); (case k5 => k_asm); (case kK => first | exact rfl | assumption); (case kd => ktr_room); (case ku => ktr_units); intro y' m' d' hi' D' c' t1' t2' t3' h' tk' F' N'; (have hf' := ej_facts hi'.2); (try k_sweep); (try k_fold))))
local macro_rules | `(tactic| walk_at "call ref") => `(tactic| ktr_call 86 (c_toGreg _ _ _ _ _ _ (by omega) (by intro n hn; unfold LenJ at hn; omega) (by omega)))
set_option maxRecDepth 100000 in
set_option maxHeartbeats 1000000 in
theorem c_easter0 (y : Int) (ty : Tok) (hlo : 1583 ≤ y) (hhi : y ≤ 60000) : CallsTo 3 94 [.int y ty] (RT (fun yy mm dd => yy = y ∧ WestF y mm dd)) := by
  unfold CallsTo
  k_fill
  w_top off
  intro w mean mg mb dp un gd cn cs a' ccd cl outer A₀ base h₀ L fm news s Q E B F X N T hk hd hu hret
  cell_step
  k_steps
  all_goals (
    refine' ret_RT hret ?y1 ?y2 ?y3 ?y4
    (case y1 => assumption)
    (case y2 => assumption)
    (case y3 => intro p h; repeat (first | exact h | refine List.mem_cons_of_mem _ ?_))
    (case y4 => assumption))
set_option maxRecDepth 100000 in
set_option maxHeartbeats 1000000 in
theorem c_easterW (y : Int) (ty tc : Tok) (hlo : 1583 ≤ y) (hhi : y ≤ 60000) : CallsTo 3 94 [.int y ty, .str (Str.ofString "western") tc] (RT (fun yy mm dd => yy = y ∧ WestF y mm dd)) := by
  unfold CallsTo
  k_fill
  w_top off
  intro w mean mg mb dp un gd cn cs a' ccd cl outer A₀ base h₀ L fm news s Q E B F X N T hk hd hu hret
  cell_step
  k_steps
  all_goals (
    refine' ret_RT hret ?y1 ?y2 ?y3 ?y4
    (case y1 => assumption)
    (case y2 => assumption)
    (case y3 => intro p h; repeat (first | exact h | refine List.mem_cons_of_mem _ ?_))
    (case y4 => assumption))
set_option maxRecDepth 100000 in
set_option maxHeartbeats 1000000 in
theorem c_easterO (y : Int) (ty tc : Tok) : CallsTo 7 94 [.int y ty, .str (Str.ofString "orthodox") tc] (RT (OldF y 0)) := by
  unfold CallsTo
  k_fill
  w_top off
  intro w mean mg mb dp un gd cn cs a' ccd cl outer A₀ base h₀ L fm news s Q E B F X N T hk hd hu hret
  cell_step
  k_steps
  all_goals (
    refine' ret_RT hret ?y1 ?y2 ?y3 ?y4
    (case y1 => assumption)
    (case y2 => assumption)
    (case y3 => intro p h; repeat (first | exact h | refine List.mem_cons_of_mem _ ?_))
    (case y4 => (rename (_ = y ∧ EJ y _ _ _) => hj); obtain ⟨e1, hj⟩ := hj; subst e1; exact ⟨_, old_fin hj, by assumption⟩))
set_option maxRecDepth 100000 in
set_option maxHeartbeats 1000000 in
theorem c_easterE (y : Int) (ty tc : Tok) : CallsTo 7 94 [.int y ty, .str (Str.ofString "eastern") tc] (RT (OldF y (if y % 19 = 0 then 1 else 0))) := by
  unfold CallsTo
  k_fill
  w_top off
  intro w mean mg mb dp un gd cn cs a' ccd cl outer A₀ base h₀ L fm news s Q E B F X N T hk hd hu hret
  cell_step
  k_steps
  all_goals (
    refine' ret_RT hret ?y1 ?y2 ?y3 ?y4
    (case y1 => assumption)
    (case y2 => assumption)
    (case y3 => intro p h; repeat (first | exact h | refine List.mem_cons_of_mem _ ?_))
    (case y4 => (rename (_ = y ∧ EJ y _ _ _) => hj); obtain ⟨e1, hj⟩ := hj; subst e1; exact ⟨_, old_fin hj, by assumption⟩))
end
section
/-- a call that raises a built-in exception -/
def RaisesTo (D : Nat) (f : Addr) (vs : List Value) (X : String) : Prop :=
  ∀ (w : World) (mean : ExcName → Option Value) (mg mb : Str → Option Value) (dp un : Nat) (gd : Option (List Code)) (cn : Str) (cs : Scope) (a : Addr) (ccd : Value) (cl : List (Str × Addr)) (outer : List Env) (A₀ : Around) (base h₀ : Heap) (L : Addr) (m : Str → Option Value) (news : List (Addr × Obj)) (s : Shared) (Q E : Value → Shared → Prop),
    Below A₀ base outer h₀ → Fr h₀ L s.heap m → (Mine.hd.heap_39 w.params).In h₀ → News h₀ L s.heap news → TopM mean mg mb h₀ → cs.kind = .function →
    dp + D < recursionLimit → un + 8 * D < cLine →
    (∀ (g : Heap) (e t : Addr) (xs : List Value) (h' : Heap) (tk' : Nat), Fr h₀ L g m → RaisedS base g (envX cn cs L a ccd cl :: outer) e (.type X) t xs news h' → g.UpToSlots h' → E (.ref e) { s with heap := h', toks := tk' }) →
    wpAny (model PySem.Challenge.rw_ja0023_01.row.prog w) (ktrTop dp un gd cn cs L a ccd cl outer) (call (.ref f) vs) Q E s
theorem raises_use {D : Nat} {f : Addr} {vs : List Value} {X : String} (C : RaisesTo D f vs X)
    {w : World} {mean : ExcName → Option Value} {mg mb : Str → Option Value} {dp un : Nat} {gd : Option (List Code)} {cn : Str} {cs : Scope} {a : Addr} {ccd : Value} {cl : List (Str × Addr)} {outer : List Env} {A₀ : Around} {base h₀ : Heap} {L : Addr} {m : Str → Option Value} {news : List (Addr × Obj)} {s : Shared} {Q E : Value → Shared → Prop}
    (B : Below A₀ base outer h₀) (F : Fr h₀ L s.heap m) (XX : (Mine.hd.heap_39 w.params).In h₀) (N : News h₀ L s.heap news) (T : TopM mean mg mb h₀) (hk : cs.kind = .function)
    (hd : dp + D < recursionLimit) (hu : un + 8 * D < cLine)
    (exc : ∀ (g : Heap) (e t : Addr) (xs : List Value) (h' : Heap) (tk' : Nat), Fr h₀ L g m → RaisedS base g (envX cn cs L a ccd cl :: outer) e (.type X) t xs news h' → g.UpToSlots h' → E (.ref e) { s with heap := h', toks := tk' }) :
    wpAny (model PySem.Challenge.rw_ja0023_01.row.prog w) (ktrTop dp un gd cn cs L a ccd cl outer) (call (.ref f) vs) Q E s :=
  C _ _ _ _ _ _ _ _ _ _ _ _ _ _ _ _ _ _ _ _ _ _ B F XX N T hk hd hu exc
/-- a call of the law's own frame, whose def may catch -/
def TopCalls (D : Nat) (f : Addr) (vs : List Value) (Ret : (List (Addr × Obj)) → Value → Prop) : Prop :=
  ∀ (w : World) (mean : ExcName → Option Value) (mg mb : Str → Option Value) (dp un : Nat) (gd : Option (List Code)) (cn : Str) (cs : Scope) (a : Addr) (ccd : Value) (A₀ : Around) (h₀ : Heap) (L : Addr) (m : Str → Option Value) (news : List (Addr × Obj)) (s : Shared) (Q E : Value → Shared → Prop),
    Below A₀ h₀ [] h₀ → Fr h₀ L s.heap m → (Mine.hd.heap_39 w.params).In h₀ → News h₀ L s.heap news → TopM mean mg mb h₀ → cs.kind = .function →
    dp + D < recursionLimit → un + 8 * D < cLine →
    (∀ (nw : List (Addr × Obj)) (v : Value) (h' : Heap) (tk' : Nat), Ret nw v → Fr h₀ L h' m → News h₀ L h' (nw ++ news) → Q v { s with heap := h', toks := tk' }) →
    wpAny (model PySem.Challenge.rw_ja0023_01.row.prog w) (ktrTop dp un gd cn cs L a ccd [] []) (call (.ref f) vs) Q E s
local macro_rules | `(tactic| cell_step) => `(tactic| (refine wpAny_call ?_; k_dflt (refine' code_def ?k1 ?k2 ?k3 ?k4 ?k5 ?kA ?kF ?kK ?k6 ?k7 ?k8 ?k9 ?kB ?_ ?c2 ?c3 ?c4 ?c5; (case kA => exact rfl); (case kF => exact rfl); (case kK => assumption); (case k1 => k_asm); (case k2 => k_asm); (case k3 => k_asm); (case k4 => k_asm); (case k5 => k_asm); (case k6 => k_is); (case k7 => k_is); (case k8 => ktr_room); (case k9 => first | exact BindsTo.of_eq rfl | exact binds_K (by k_in) rfl (by k_is) rfl rfl rfl); (case c5 => decide); (case kB => exact locs rfl); (case c2 => exact rfl); (case c3 => exact rfl); (case c4 => exact rfl); k_whole; intro g' L' h' FG' F' N' B' X' T'; (try dsimp only); (try k_fold))))
local macro_rules | `(tactic| ktr_step) => `(tactic| (refine wpAny_call ?_; k_dflt (refine' code_defS0 ?k1 ?k2 ?k3 ?k4 ?k5 ?kA ?k6 ?k7 ?k8 ?k9 ?kB ?_ ?cK ?c2 ?c3 ?c4 ?c5; (case kA => exact rfl); (case k2 => k_asm); (case k1 => k_asm); (case k3 => k_asm); (case k4 => k_asm); (case k5 => k_asm); (case k6 => k_is); (case k7 => k_is); (case k8 => ktr_room); (case k9 => first | exact BindsTo.of_eq rfl | exact binds_K (by k_in) rfl (by k_is) rfl rfl rfl); (case kB => exact locs rfl); (case cK => assumption); (case c2 => exact rfl); (case c3 => exact rfl); (case c4 => exact rfl); (case c5 => decide); k_whole; intro g' L' h' FG' F' N' B' X' T' D'; (try dsimp only); (try k_fold))))
local macro_rules | `(tactic| walk_at "leaving ref") => `(tactic| (k_here; (refine' leave_raiseS ?k1 ?k0 ?k2 ?k3 ?_; (case k0 => first | assumption | exact Heap.MadeExc.of (by assumption)); (case k2 => assumption); (case k1 => assumption); (case k3 => k_asm); k_whole; intro h' t' S' R' U'; (try dsimp only at S' R' U' ⊢))))
set_option maxRecDepth 100000 in
set_option maxHeartbeats 1000000 in
theorem c_easterX0 (y : Int) (ty tc : Tok) : RaisesTo 1 94 [.int y ty, .str (Str.ofString "Western") tc] "ValueError" := by
  unfold RaisesTo
  k_fill
  w_top off
  intro w mean mg mb dp un gd cn cs a' ccd cl outer A₀ base h₀ L fm news s Q E B F X N T hk hd hu hexc
  cell_step
  k_steps
  all_goals exact hexc _ _ _ _ _ _ (by assumption) (by assumption) (by assumption)
set_option maxRecDepth 100000 in
set_option maxHeartbeats 1000000 in
theorem c_easterX1 (y : Int) (ty tc : Tok) : RaisesTo 1 94 [.int y ty, .str (Str.ofString "julian") tc] "ValueError" := by
  unfold RaisesTo
  k_fill
  w_top off
  intro w mean mg mb dp un gd cn cs a' ccd cl outer A₀ base h₀ L fm news s Q E B F X N T hk hd hu hexc
  cell_step
  k_steps
  all_goals exact hexc _ _ _ _ _ _ (by assumption) (by assumption) (by assumption)
set_option maxRecDepth 100000 in
set_option maxHeartbeats 1000000 in
theorem c_easterX2 (y : Int) (ty tc : Tok) : RaisesTo 1 94 [.int y ty, .str (Str.ofString "x") tc] "ValueError" := by
  unfold RaisesTo
  k_fill
  w_top off
  intro w mean mg mb dp un gd cn cs a' ccd cl outer A₀ base h₀ L fm news s Q E B F X N T hk hd hu hexc
  cell_step
  k_steps
  all_goals exact hexc _ _ _ _ _ _ (by assumption) (by assumption) (by assumption)
set_option maxRecDepth 100000 in
set_option maxHeartbeats 1000000 in
theorem c_easterX3 (y : Int) (ty tc : Tok) : RaisesTo 1 94 [.int y ty, .str (Str.ofString "orthodox ") tc] "ValueError" := by
  unfold RaisesTo
  k_fill
  w_top off
  intro w mean mg mb dp un gd cn cs a' ccd cl outer A₀ base h₀ L fm news s Q E B F X N T hk hd hu hexc
  cell_step
  k_steps
  all_goals exact hexc _ _ _ _ _ _ (by assumption) (by assumption) (by assumption)
set_option maxRecDepth 100000 in
set_option maxHeartbeats 1000000 in
theorem c_easterX4 (y : Int) (ty tc : Tok) : RaisesTo 1 94 [.int y ty, .str (Str.ofString "Eastern") tc] "ValueError" := by
  unfold RaisesTo
  k_fill
  w_top off
  intro w mean mg mb dp un gd cn cs a' ccd cl outer A₀ base h₀ L fm news s Q E B F X N T hk hd hu hexc
  cell_step
  k_steps
  all_goals exact hexc _ _ _ _ _ _ (by assumption) (by assumption) (by assumption)
set_option maxRecDepth 100000 in
set_option maxHeartbeats 1000000 in
theorem c_easterX5 (y : Int) (ty tc : Tok) : RaisesTo 1 94 [.int y ty, .str (Str.ofString "Orthodox") tc] "ValueError" := by
  unfold RaisesTo
  k_fill
  w_top off
  intro w mean mg mb dp un gd cn cs a' ccd cl outer A₀ base h₀ L fm news s Q E B F X N T hk hd hu hexc
  cell_step
  k_steps
  all_goals exact hexc _ _ _ _ _ _ (by assumption) (by assumption) (by assumption)
local macro_rules | `(tactic| cell_ask $c:term) => `(tactic| k_dflt (k_here; (refine' raises_use $c ?k1 ?k2 ?k3 ?k4 ?k5 ?kK ?kd ?ku ?_; (case k1 => k_asm); (case k2 => k_asm); (case k3 => k_asm); (case k4 => k_asm); (case k5 => k_asm); (case kK => first | exact rfl | assumption); (case kd => ktr_room); (case ku => ktr_units); intro g' e' t' xs' h' tk' F' R' U'; (try k_sweep); (try k_fold))))
local macro_rules | `(tactic| walk_at "call ref") => `(tactic| first
  | cell_ask (c_easterX0 _ _ _) | cell_ask (c_easterX1 _ _ _) | cell_ask (c_easterX2 _ _ _) | cell_ask (c_easterX3 _ _ _) | cell_ask (c_easterX4 _ _ _) | cell_ask (c_easterX5 _ _ _))
set_option maxRecDepth 100000 in
set_option maxHeartbeats 1000000 in
theorem c_refused0 (y : Int) (ty tc : Tok) : TopCalls 2 186 [.int y ty, .str (Str.ofString "Western") tc] (RB True) := by
  unfold TopCalls
  k_fill
  w_top off
  intro w mean mg mb dp un gd cn cs a' ccd A₀ h₀ L fm news s Q E B F X N T hk hd hu hret
  ktr_step
  k_steps
  all_goals exact ret_sub hret [] (RB.ofT trivial) (by assumption) (by assumption) (fun p hp => hp)
set_option maxRecDepth 100000 in
set_option maxHeartbeats 1000000 in
theorem c_refused1 (y : Int) (ty tc : Tok) : TopCalls 2 186 [.int y ty, .str (Str.ofString "julian") tc] (RB True) := by
  unfold TopCalls
  k_fill
  w_top off
  intro w mean mg mb dp un gd cn cs a' ccd A₀ h₀ L fm news s Q E B F X N T hk hd hu hret
  ktr_step
  k_steps
  all_goals exact ret_sub hret [] (RB.ofT trivial) (by assumption) (by assumption) (fun p hp => hp)
set_option maxRecDepth 100000 in
set_option maxHeartbeats 1000000 in
theorem c_refused2 (y : Int) (ty tc : Tok) : TopCalls 2 186 [.int y ty, .str (Str.ofString "x") tc] (RB True) := by
  unfold TopCalls
  k_fill
  w_top off
  intro w mean mg mb dp un gd cn cs a' ccd A₀ h₀ L fm news s Q E B F X N T hk hd hu hret
  ktr_step
  k_steps
  all_goals exact ret_sub hret [] (RB.ofT trivial) (by assumption) (by assumption) (fun p hp => hp)
set_option maxRecDepth 100000 in
set_option maxHeartbeats 1000000 in
theorem c_refused3 (y : Int) (ty tc : Tok) : TopCalls 2 186 [.int y ty, .str (Str.ofString "orthodox ") tc] (RB True) := by
  unfold TopCalls
  k_fill
  w_top off
  intro w mean mg mb dp un gd cn cs a' ccd A₀ h₀ L fm news s Q E B F X N T hk hd hu hret
  ktr_step
  k_steps
  all_goals exact ret_sub hret [] (RB.ofT trivial) (by assumption) (by assumption) (fun p hp => hp)
set_option maxRecDepth 100000 in
set_option maxHeartbeats 1000000 in
theorem c_refused4 (y : Int) (ty tc : Tok) : TopCalls 2 186 [.int y ty, .str (Str.ofString "Eastern") tc] (RB True) := by
  unfold TopCalls
  k_fill
  w_top off
  intro w mean mg mb dp un gd cn cs a' ccd A₀ h₀ L fm news s Q E B F X N T hk hd hu hret
  ktr_step
  k_steps
  all_goals exact ret_sub hret [] (RB.ofT trivial) (by assumption) (by assumption) (fun p hp => hp)
set_option maxRecDepth 100000 in
set_option maxHeartbeats 1000000 in
theorem c_refused5 (y : Int) (ty tc : Tok) : TopCalls 2 186 [.int y ty, .str (Str.ofString "Orthodox") tc] (RB True) := by
  unfold TopCalls
  k_fill
  w_top off
  intro w mean mg mb dp un gd cn cs a' ccd A₀ h₀ L fm news s Q E B F X N T hk hd hu hret
  ktr_step
  k_steps
  all_goals exact ret_sub hret [] (RB.ofT trivial) (by assumption) (by assumption) (fun p hp => hp)
end
section
theorem west_unique {y s s' : Int} (h : WestOk y s) (h' : WestOk y s') : s = s' := by
  obtain ⟨p, b, hp, hb, hs⟩ := h
  obtain ⟨p', b', hp', hb', hs'⟩ := h'
  have e1 := past_unique hp hp'
  subst e1
  have e2 : b = b' := by
    rcases hb with ⟨a, c⟩ | ⟨a, c⟩ <;> rcases hb' with ⟨a', c'⟩ | ⟨a', c'⟩
    · omega
    · exact absurd a a'
    · exact absurd a' a
    · omega
  subst e2
  exact sun_unique hs hs'
noncomputable def pick3 (P : Int → Int → Int → Prop) : Int × Int × Int := @dite _ (∃ t : Int × Int × Int, P t.1 t.2.1 t.2.2) (Classical.propDecidable _) (fun h => Classical.choose h) (fun _ => (0, 0, 0))
theorem pick3_eq {P : Int → Int → Int → Prop} (hu : ∀ a b c a' b' c', P a b c → P a' b' c' → a = a' ∧ b = b' ∧ c = c') {a b c : Int} (h : P a b c) : a = (pick3 P).1 ∧ b = (pick3 P).2.1 ∧ c = (pick3 P).2.2 := by
  have hex : ∃ t : Int × Int × Int, P t.1 t.2.1 t.2.2 := ⟨(a, b, c), h⟩
  have e : pick3 P = Classical.choose hex := by
    unfold pick3
    rw [dif_pos hex]
  rw [e]
  exact hu _ _ _ _ _ _ h (Classical.choose_spec hex)
def WestP (y a b c : Int) : Prop := ∃ s, WestOk y s ∧ IsDate s a b c
theorem westP_unique (y : Int) : ∀ a b c a' b' c', WestP y a b c → WestP y a' b' c' → a = a' ∧ b = b' ∧ c = c' := by
  rintro a b c a' b' c' ⟨s, h1, h2⟩ ⟨s', h3, h4⟩
  have := west_unique h1 h3
  subst this
  exact date_unique h2 h4
theorem oldF_unique (y l : Int) : ∀ a b c a' b' c', OldF y l a b c → OldF y l a' b' c' → a = a' ∧ b = b' ∧ c = c' := by
  rintro a b c a' b' c' ⟨s, h1, h2⟩ ⟨s', h3, h4⟩
  have : s = s' := sun_unique h1 h3
  subst this
  exact date_unique h2 h4
def Is3 (t : Int × Int × Int) (a b c : Int) : Prop := a = t.1 ∧ b = t.2.1 ∧ c = t.2.2
theorem rt_mono {P P' : Int → Int → Int → Prop} (h : ∀ a b c, P a b c → P' a b c) : ∀ nw v, RT P nw v → RT P' nw v :=
  fun _ _ ⟨D, c, y, m, d, t1, t2, t3, e1, e2, hp⟩ => ⟨D, c, y, m, d, t1, t2, t3, e1, e2, h _ _ _ hp⟩
theorem k_lawWest (y : Int) (ty : Tok) (hlo : 1583 ≤ y) (hhi : y ≤ 60000) : CallsTo 3 158 [.int y ty] (RT (Is3 (pick3 (WestP y)))) :=
  calls_mono (c_lawWest y ty hlo hhi) (rt_mono fun a b c h => pick3_eq (westP_unique y) h)
theorem k_easter0 (y : Int) (ty : Tok) (hlo : 1583 ≤ y) (hhi : y ≤ 60000) : CallsTo 3 94 [.int y ty] (RT (Is3 (pick3 (WestP y)))) :=
  calls_mono (c_easter0 y ty hlo hhi) (rt_mono fun a b c h => pick3_eq (westP_unique y) (by obtain ⟨e, s, h1, h2⟩ := h; subst e; exact ⟨s, h1, h2⟩))
theorem k_easterW (y : Int) (ty tc : Tok) (hlo : 1583 ≤ y) (hhi : y ≤ 60000) : CallsTo 3 94 [.int y ty, .str (Str.ofString "western") tc] (RT (Is3 (pick3 (WestP y)))) :=
  calls_mono (c_easterW y ty tc hlo hhi) (rt_mono fun a b c h => pick3_eq (westP_unique y) (by obtain ⟨e, s, h1, h2⟩ := h; subst e; exact ⟨s, h1, h2⟩))
theorem k_easterO (y : Int) (ty tc : Tok) : CallsTo 7 94 [.int y ty, .str (Str.ofString "orthodox") tc] (RT (Is3 (pick3 (OldF y 0)))) :=
  calls_mono (c_easterO y ty tc) (rt_mono fun a b c h => pick3_eq (oldF_unique y 0) h)
theorem k_easterE1 (y : Int) (ty tc : Tok) (h : y % 19 = 0) : CallsTo 7 94 [.int y ty, .str (Str.ofString "eastern") tc] (RT (Is3 (pick3 (OldF y 1)))) :=
  calls_mono (c_easterE y ty tc) (rt_mono fun a b c h' => pick3_eq (oldF_unique y 1) (by rw [if_pos h] at h'; exact h'))
theorem k_easterE0 (y : Int) (ty tc : Tok) (h : ¬ y % 19 = 0) : CallsTo 7 94 [.int y ty, .str (Str.ofString "eastern") tc] (RT (Is3 (pick3 (OldF y 0)))) :=
  calls_mono (c_easterE y ty tc) (rt_mono fun a b c h' => pick3_eq (oldF_unique y 0) (by rw [if_neg h] at h'; exact h'))
theorem k_easterE (y : Int) (ty tc : Tok) : CallsTo 7 94 [.int y ty, .str (Str.ofString "eastern") tc] (RT (Is3 (pick3 (OldF y (if y % 19 = 0 then 1 else 0))))) :=
  calls_mono (c_easterE y ty tc) (rt_mono fun a b c h => pick3_eq (oldF_unique y _) h)
theorem k_lawOld (y later : Int) (t1 t2 : Tok) : CallsTo 3 179 [.int y t1, .int later t2] (RT (Is3 (pick3 (OldF y later)))) :=
  calls_mono (c_lawOld y later t1 t2) (rt_mono fun a b c h => pick3_eq (oldF_unique y later) h)
theorem k_lawOldE (y later : Int) (t1 t2 : Tok) (hl : later = if y % 19 = 0 then 1 else 0) : CallsTo 3 179 [.int y t1, .int later t2] (RT (Is3 (pick3 (OldF y (if y % 19 = 0 then 1 else 0))))) := by
  rw [← hl]
  exact k_lawOld y later t1 t2
theorem top_RB {D : Nat} {f : Addr} {vs : List Value} (C : TopCalls D f vs (RB True))
    {w : World} {mean : ExcName → Option Value} {mg mb : Str → Option Value} {dp un : Nat} {gd : Option (List Code)} {cn : Str} {cs : Scope} {a : Addr} {ccd : Value} {A₀ : Around} {h₀ : Heap} {L : Addr} {m : Str → Option Value} {news : List (Addr × Obj)} {s : Shared} {Q E : Value → Shared → Prop}
    (B : Below A₀ h₀ [] h₀) (F : Fr h₀ L s.heap m) (X : (Mine.hd.heap_39 w.params).In h₀) (N : News h₀ L s.heap news) (T : TopM mean mg mb h₀) (hk : cs.kind = .function)
    (hd : dp + D < recursionLimit) (hu : un + 8 * D < cLine)
    (ht : ∀ (h' : Heap) (tk' : Nat), Fr h₀ L h' m → News h₀ L h' news → Q (.bool true) { s with heap := h', toks := tk' }) :
    wpAny (model PySem.Challenge.rw_ja0023_01.row.prog w) (ktrTop dp un gd cn cs L a ccd [] []) (call (.ref f) vs) Q E s := by
  refine C _ _ _ _ _ _ _ _ _ _ _ _ _ _ _ _ _ _ _ B F X N T hk hd hu ?_
  rintro _ _ h' tk' ⟨rfl, (⟨h, rfl⟩ | ⟨h, rfl⟩)⟩ F' N'
  · exact ht h' tk' F' N'
  · exact absurd trivial h
local macro_rules | `(tactic| cell_step) => `(tactic| k_dflt (k_here; (with_reducible show wpAny _ _ (PySem.call (Value.ref 186) _) _ _ _); first | (refine' top_RB (c_refused0 _ _ _) ?k1 ?k2 ?k3 ?k4 ?k5 ?kK ?kd ?ku ?_; (case k1 => k_asm); (case k2 => k_asm); (case k3 => k_asm); (case k4 => k_asm); (case k5 => k_asm); (case kK => first | exact rfl | assumption); (case kd => ktr_room); (case ku => ktr_units); intro h' tk' F' N'; (try k_sweep); (try k_fold)) | (refine' top_RB (c_refused1 _ _ _) ?k1 ?k2 ?k3 ?k4 ?k5 ?kK ?kd ?ku ?_; (case k1 => k_asm); (case k2 => k_asm); (case k3 => k_asm); (case k4 => k_asm); (case k5 => k_asm); (case kK => first | exact rfl | assumption); (case kd => ktr_room); (case ku => ktr_units); intro h' tk' F' N'; (try k_sweep); (try k_fold)) | (refine' top_RB (c_refused2 _ _ _) ?k1 ?k2 ?k3 ?k4 ?k5 ?kK ?kd ?ku ?_; (case k1 => k_asm); (case k2 => k_asm); (case k3 => k_asm); (case k4 => k_asm); (case k5 => k_asm); (case kK => first | exact rfl | assumption); (case kd => ktr_room); (case ku => ktr_units); intro h' tk' F' N'; (try k_sweep); (try k_fold)) | (refine' top_RB (c_refused3 _ _ _) ?k1 ?k2 ?k3 ?k4 ?k5 ?kK ?kd ?ku ?_; (case k1 => k_asm); (case k2 => k_asm); (case k3 => k_asm); (case k4 => k_asm); (case k5 => k_asm); (case kK => first | exact rfl | assumption); (case kd => ktr_room); (case ku => ktr_units); intro h' tk' F' N'; (try k_sweep); (try k_fold)) | (refine' top_RB (c_refused4 _ _ _) ?k1 ?k2 ?k3 ?k4 ?k5 ?kK ?kd ?ku ?_; (case k1 => k_asm); (case k2 => k_asm); (case k3 => k_asm); (case k4 => k_asm); (case k5 => k_asm); (case kK => first | exact rfl | assumption); (case kd => ktr_room); (case ku => ktr_units); intro h' tk' F' N'; (try k_sweep); (try k_fold)) | (refine' top_RB (c_refused5 _ _ _) ?k1 ?k2 ?k3 ?k4 ?k5 ?kK ?kd ?ku ?_; (case k1 => k_asm); (case k2 => k_asm); (case k3 => k_asm); (case k4 => k_asm); (case k5 => k_asm); (case kK => first | exact rfl | assumption); (case kd => ktr_room); (case ku => ktr_units); intro h' tk' F' N'; (try k_sweep); (try k_fold))))
-- a known tuple comes back
local macro_rules | `(tactic| cell_ask $c:term) => `(tactic| k_dflt (k_here; (refine' calls_RT $c ?k1 ?k2 ?k3 ?k4 ?k5 ?kK ?kd ?ku ?_; (case k1 => k_asm); (case k2 => k_asm); (case k3 => k_asm); (case k4 => k_asm); (case k5 => k_asm); (case kK => first | exact rfl | assumption); (case kd => ktr_room); (case ku => ktr_units); intro y' m' d' hi' D' c' t1' t2' t3' h' tk' F' N'; (obtain ⟨ea', eb', ec'⟩ := hi'); subst ea' eb' ec'; (try k_sweep); (try k_fold))))
local macro_rules | `(tactic| walk_at "call ref") => `(tactic| first
  | cell_step
  | ((with_reducible show wpAny _ _ (PySem.call (Value.ref 158) _) _ _ _); cell_ask (k_lawWest _ _ (by omega) (by omega)))
  | ((with_reducible show wpAny _ _ (PySem.call (Value.ref 179) _) _ _ _); cell_ask (k_lawOldE _ _ _ _ (by first | rw [if_pos (by omega)] | rw [if_neg (by omega)])))
  | ((with_reducible show wpAny _ _ (PySem.call (Value.ref 179) _) _ _ _); cell_ask (k_lawOld _ _ _ _))
  | ((with_reducible show wpAny _ _ (PySem.call (Value.ref 94) [_]) _ _ _); cell_ask (k_easter0 _ _ (by omega) (by omega)))
  | ((with_reducible show wpAny _ _ (PySem.call (Value.ref 94) [_, Value.str (Str.ofString "western") _]) _ _ _); cell_ask (k_easterW _ _ _ (by omega) (by omega)))
  | ((with_reducible show wpAny _ _ (PySem.call (Value.ref 94) [_, Value.str (Str.ofString "orthodox") _]) _ _ _); cell_ask (k_easterO _ _ _))
  | ((with_reducible show wpAny _ _ (PySem.call (Value.ref 94) [_, Value.str (Str.ofString "eastern") _]) _ _ _); cell_ask (k_easterE _ _ _)))
-- the ways to a year meet
@[irreducible] def YearEnd (P : Int → Prop) (s : Shared) (v : Value) (s' : Shared) : Prop := ∃ (y : Int) (t : Tok) (tk : Nat), P y ∧ v = .int y t ∧ s' = { s with toks := tk }
theorem year_end {P : Int → Prop} {s : Shared} {y : Int} {t : Tok} {tk : Nat} (h : P y) : YearEnd P s (.int y t) { s with toks := tk } := by
  unfold YearEnd
  exact ⟨y, t, tk, h, rfl, rfl⟩
theorem year_meet {M : Model} {A : Around} {c : Sem Value} {s : Shared} {Q E : Value → Shared → Prop} (P : Int → Prop) (h : wpAny M A c (YearEnd P s) E s) (k : ∀ (y : Int) (t : Tok) (tk : Nat), P y → Q (.int y t) { s with toks := tk }) : wpAny M A c Q E s := by
  refine wpAny_mono h ?_ (fun _ _ e => e)
  intro v s' hv
  unfold YearEnd at hv
  obtain ⟨y, t, tk, hp, rfl, rfl⟩ := hv
  exact k y t tk hp
local macro_rules | `(tactic| cell_end $as:term $rest:term $gs:term) => `(tactic| ((fail_if_success (with_reducible show wpAny _ _ _ (YearEnd _ _) _ _)); k_here; (fail_if_success (with_reducible show wpAny _ _ _ (YearEnd _ _) _ _)); k_dflt (refine' year_meet $as ?h ?k; (case h => (k_steps; all_goals exact year_end (by first | trivial | omega))); (case' k => intro y' t' tk' hy'))))
local macro_rules | `(tactic| walk_at "eval BinOp Constant Add IfExp") => `(tactic| cell_end (fun y => 1583 ≤ y ∧ y ≤ 60000) [] [])
local macro_rules | `(tactic| walk_at "eval IfExp Compare BinOp BinOp") => `(tactic| cell_end (fun _ => True) [] [])
set_option maxRecDepth 100000 in
set_option maxHeartbeats 8000000 in
theorem lawHolds : PySem.Challenge.rw_ja0023_01.Holds := by
  refine Mine.hd ?_
  k_go0
  all_goals (try k_fold)
  repeat' (first | (k_unfold; (try dsimp only)) | walk1 | (dsimp only; walk1) | fail "no step")
  all_goals (try dsimp only)
  all_goals (
    refine goodW_bool (by assumption) (by assumption) (raisesW_false ?_) ?_
    · wrow_none_raised
    · first | kc_post | wrow_post)
end
end Mine
set_option maxRecDepth 100000 in
set_option maxHeartbeats 8000000 in
theorem PySem.Challenge.cw_ja0023_01_holds : PySem.Challenge.rw_ja0023_01.Holds := by
  exact Mine.lawHolds
