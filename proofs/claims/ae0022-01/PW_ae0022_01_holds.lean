import PyProof.Rows.All
import Wide.All
import OpenK.AllK
import Wide.FinOn
import PySem.Challenge.RW_ae0022_01
open PySem PySem.W PyProof.Rows PySem.Calls
set_option Elab.async false
set_option maxRecDepth 100000
set_option maxHeartbeats 4000000
set_option compiler.extract_closed false
set_option genSizeOf false
set_option genInjectivity false
set_option pp.deepTerms false
set_option pp.maxSteps 1200
namespace Mine
section
local macro_rules | `(tactic| o_head ($_ $_ $_ $_)) => `(tactic| assumption)
theorem hd (h : PySem.Challenge.rw_ae0022_01.row.Holds) : PySem.Challenge.rw_ae0022_01.row.Holds := by k_head
end
end Mine
section
open PySem PySem.W PyProof.Rows PySem.Calls
namespace Mine
open PyProof.Rows.LCg PyProof.Rows.LCt
noncomputable def Keep (h h' : Heap) : Prop := ∀ b o, h.get? b = some o → h'.get? b = some o
theorem Keep.refl (h : Heap) : Keep h h := fun _ _ e => e
theorem Keep.trans {a b c : Heap} (x : Keep a b) (y : Keep b c) : Keep a c := fun q o e => y q o (x q o e)
section
variable {prog : Program} {w : World} {A : Around} {s : Shared} {h₀ : Heap} {L : Addr} {m : Str → Option Value} {env : Env}
noncomputable def TurnEnd (h : Heap) (s : Shared) (P : Prop) (s' : Shared) : Prop := P ∧ ∃ h' tk, s' = { s with heap := h', toks := tk } ∧ Keep h h'
theorem compRestT_pure {ct elt : Expr} {x : Str} {scope : Scope} {cl : List (Str × Addr)} {S : List (Addr × Obj) → Prop} {its : List Value} {Fin : List Value → List (Addr × Obj) → Prop} {news : List (Addr × Obj)}
    (p : Value → Bool) (f : Value → Value) (hS : S news)
    (test : ∀ v I oI C oC D ys m₂ h tk (E' : Value → Shared → Prop), v ∈ its → NsObj oC m₂ → m₂ x = some v → Fr h₀ L h m → News h₀ L h ((I, oI) :: (C, oC) :: (D, lst ys) :: news) →
      wpAny (model prog w) A (isTrue ct (compEnvC scope cl C env) (eval ct (compEnvC scope cl C env))) (fun ok s' => TurnEnd h s (ok = p v) s') E' { s with heap := h, toks := tk })
    (elem : ∀ v I oI C oC D ys m₂ h tk (E' : Value → Shared → Prop), v ∈ its → p v = true → NsObj oC m₂ → m₂ x = some v → Fr h₀ L h m → News h₀ L h ((I, oI) :: (C, oC) :: (D, lst ys) :: news) →
      wpAny (model prog w) A (eval elt (compEnvC scope cl C env)) (fun y s' => TurnEnd h s (y = f v) s') E' { s with heap := h, toks := tk })
    (fin : Fin ((its.filter p).map f) news) :
    CompRestT prog w A h₀ L m env ct elt x scope cl s S (fun i v => its.toArray[i]? = some v) Fin its.toArray.size 0 [] news := by
  have gen : ∀ k i ys, i + k = its.length → ys = ((its.take i).filter p).map f →
      CompRestT prog w A h₀ L m env ct elt x scope cl s S (fun i v => its.toArray[i]? = some v) Fin k i ys news := by
    intro k
    induction k with
    | zero =>
      intro i ys hi hy
      refine CompRestT.zero ?_
      rw [hy, List.take_of_length_le (show its.length ≤ i from Nat.le_of_eq hi.symm)]; exact fin
    | succ k ih =>
      intro i ys hi hy
      refine CompRestT.succ fun v I oI C oC D m₂ h tk E' hv hC hx F N off ne => ?_
      have hv' : its[i]? = some v := by simpa using hv
      have hmem : v ∈ its := List.mem_of_getElem? hv'
      have htk : its.take (i + 1) = its.take i ++ [v] := by rw [List.take_add_one, hv']; rfl
      refine wpAny_mono (test v I oI C oC D ys m₂ h tk E' hmem hC hx F N) (fun ok s₁ h₁ => ?_) fun _ _ e => e
      obtain ⟨rfl, h', tk', rfl, kp⟩ := h₁
      have F' := F.keeps kp
      have N' := N.grown kp
      cases hp : p v with
      | true =>
        simp only [if_true]
        refine wpAny_mono (elem v I oI C oC D ys m₂ h' tk' E' hmem hp hC hx F' N') (fun y s₂ h₂ => ?_) fun _ _ e => e
        obtain ⟨rfl, h'', tk'', rfl, kp'⟩ := h₂
        refine CompEnd.intro (F'.keeps kp') (N'.grown kp') news (fun _ hq => hq) off hS ?_
        refine ih (i + 1) _ ((Nat.add_right_comm i 1 k).trans hi) ?_
        rw [htk, List.filter_append, List.map_append, ← hy]
        simp [hp]
      | false =>
        simp only [Bool.false_eq_true, if_false]
        refine CompEnd.intro F' N' news (fun _ hq => hq) off hS ?_
        refine ih (i + 1) _ ((Nat.add_right_comm i 1 k).trans hi) ?_
        rw [htk, List.filter_append, List.map_append, ← hy]
        simp [hp]
  have := gen its.length 0 [] (by simp) (by simp)
  simpa using this
theorem compRest_pure {elt : Expr} {x : Str} {scope : Scope} {cl : List (Str × Addr)} {S : List (Addr × Obj) → Prop} {its : List Value} {Fin : List Value → List (Addr × Obj) → Prop} {news : List (Addr × Obj)}
    (f : Value → Value) (hS : S news)
    (elem : ∀ v I oI C oC D ys m₂ h tk (E' : Value → Shared → Prop), v ∈ its → NsObj oC m₂ → m₂ x = some v → Fr h₀ L h m → News h₀ L h ((I, oI) :: (C, oC) :: (D, lst ys) :: news) →
      wpAny (model prog w) A (eval elt (compEnvC scope cl C env)) (fun y s' => TurnEnd h s (y = f v) s') E' { s with heap := h, toks := tk })
    (fin : Fin (its.map f) news) :
    CompRest prog w A h₀ L m env elt x scope cl s S (fun i v => its.toArray[i]? = some v) Fin its.toArray.size 0 [] news := by
  have gen : ∀ k i ys, i + k = its.length → ys = (its.take i).map f →
      CompRest prog w A h₀ L m env elt x scope cl s S (fun i v => its.toArray[i]? = some v) Fin k i ys news := by
    intro k
    induction k with
    | zero =>
      intro i ys hi hy
      refine CompRest.zero ?_
      rw [hy, List.take_of_length_le (show its.length ≤ i from Nat.le_of_eq hi.symm)]; exact fin
    | succ k ih =>
      intro i ys hi hy
      refine CompRest.succ fun v I oI C oC D m₂ h tk E' hv hC hx F N off ne => ?_
      have hv' : its[i]? = some v := by simpa using hv
      have hmem : v ∈ its := List.mem_of_getElem? hv'
      have htk : its.take (i + 1) = its.take i ++ [v] := by rw [List.take_add_one, hv']; rfl
      refine wpAny_mono (elem v I oI C oC D ys m₂ h tk E' hmem hC hx F N) (fun y s₂ h₂ => ?_) fun _ _ e => e
      obtain ⟨rfl, h'', tk'', rfl, kp'⟩ := h₂
      refine CompEnd.intro (F.keeps kp') (N.grown kp') news (fun _ hq => hq) off hS ?_
      refine ih (i + 1) _ ((Nat.add_right_comm i 1 k).trans hi) ?_
      rw [htk, List.map_append, ← hy]; rfl
  have := gen its.length 0 [] (by simp) (by simp)
  simpa using this
end
end Mine
namespace Mine
open PyProof.Rows.LCg PyProof.Rows.LCt
theorem off1_all {D : Addr} : ∀ {l : List (Addr × Obj)}, Off1 D l → ∀ p ∈ l, p.1 ≠ D
  | [], _, _, h => nomatch h
  | _ :: _, x, p, h => by
    rcases List.mem_cons.mp h with rfl | h
    · exact x.1
    · exact off1_all x.2 p h
theorem allLt_all {D : Addr} : ∀ {l : List (Addr × Obj)}, AllLt D l → ∀ p ∈ l, p.1 ≠ D
  | [], _, _, h => nomatch h
  | _ :: _, x, p, h => by
    rcases List.mem_cons.mp h with rfl | h
    · exact Nat.ne_of_lt x.1
    · exact allLt_all x.2 p h
noncomputable abbrev roleDict (P : Params) (nm : Str) (t0 t1 t2 t3 t4 t5 : Tok) (rl ul c1 c2 : Addr) : Obj :=
  dictOf [⟨PyData.keyHash P "name", .str "name" t1, .str nm t0⟩, ⟨PyData.keyHash P "roles", .str "roles" t2, .ref rl⟩, ⟨PyData.keyHash P "users", .str "users" t3, .ref ul⟩, ⟨PyData.keyHash P "link_condition_func_map", .str "link_condition_func_map" t4, .ref c1⟩,
      ⟨PyData.keyHash P "link_condition_func_params_map", .str "link_condition_func_params_map" t5, .ref c2⟩] 5
end Mine
namespace Mine
section
variable {M : Model} {A : Around} {E : Value → Shared → Prop} {s : Shared} {Q : Value → Shared → Prop}
theorem isNot_inst {x y C C' dx dy : Addr} (h : Q (.bool (Value.ref x != Value.ref y)) s) (hx : s.heap.get? x = some (instObj C dx) := by tb_start) (hy : s.heap.get? y = some (instObj C' dy) := by tb_start) :
    wpAny M A (compareOp .IsNot (.ref x) (.ref y)) Q E s := by
  by_cases e : x = y
  · subst e
    have : (Value.ref x != Value.ref x) = false := by simp
    rw [this] at h
    exact wpAny_bind (wpAny_isSame_ref_self (wpAny_pure h))
  · have : (Value.ref x != Value.ref y) = true := by simp [e]
    rw [this] at h
    exact wpAny_bind (wpAny_isSame_ref_other e hx hy (by simp) (wpAny_pure h))
theorem is_inst {x y C C' dx dy : Addr} (h : Q (.bool (Value.ref x == Value.ref y)) s) (hx : s.heap.get? x = some (instObj C dx) := by tb_start) (hy : s.heap.get? y = some (instObj C' dy) := by tb_start) :
    wpAny M A (compareOp .Is (.ref x) (.ref y)) Q E s := by
  by_cases e : x = y
  · subst e
    have : (Value.ref x == Value.ref x) = true := by simp
    rw [this] at h
    exact wpAny_bind (wpAny_isSame_ref_self (wpAny_pure h))
  · have : (Value.ref x == Value.ref y) = false := by simp [e]
    rw [this] at h
    exact wpAny_bind (wpAny_isSame_ref_other e hx hy (by simp) (wpAny_pure h))
end
theorem filter_ref_map (as : List Addr) (u : Addr) : ((as.map Value.ref).filter (fun v => v != .ref u)).map (fun v => v) = (as.filter (· != u)).map Value.ref := by
  induction as with
  | nil => rfl
  | cons a r ih =>
    have ih' : ((r.map Value.ref).filter (fun v => v != .ref u)) = (r.filter (· != u)).map Value.ref := by simpa using ih
    by_cases e : a = u
    · subst e; simp [ih']
    · have : (Value.ref a != Value.ref u) = true := by simp [e]
      simp [this, e, ih']
noncomputable abbrev mgrDict (P : Params) (lv : Int) (tl t1 t2 t3 t4 t5 : Tok) (al ar : Addr) : Obj :=
  dictOf [⟨PyData.keyHash P "max_hierarchy_level", .str "max_hierarchy_level" t1, .int lv tl⟩, ⟨PyData.keyHash P "matching_func", .str "matching_func" t2, .none⟩, ⟨PyData.keyHash P "domain_matching_func", .str "domain_matching_func" t3, .none⟩,
      ⟨PyData.keyHash P "all_links", .str "all_links" t4, .ref al⟩, ⟨PyData.keyHash P "all_roles", .str "all_roles" t5, .ref ar⟩] 5
end Mine
namespace Mine
open PyProof.Rows.LCg PyProof.Rows.LCt
@[elab_as_elim] theorem memc {α : Type} {a : α} {l : List α} {P : α → Prop} {p : α} (h : p ∈ a :: l) (h1 : P a) (h2 : p ∈ l → P p) : P p := by
  rcases List.mem_cons.mp h with rfl | h
  · exact h1
  · exact h2 h
theorem ar_step {n i : Nat} (h : i < n) : n + 1 - (i + 1) < n + 1 - i := by omega
theorem ar_u {u c m n d : Nat} (h : u + 50 < c) (k : min m n ≤ d) (j : d ≤ 5) : u + min m n < c := Nat.lt_of_le_of_lt (Nat.add_le_add_left (Nat.le_trans k (Nat.le_trans j (by decide))) u) h
theorem ar_u1 {u c m n d : Nat} (h : u + 50 < c) (k : min m n ≤ d) (j : d ≤ 5) : u + 1 + min m n < c := by
  rw [Nat.add_assoc]; exact Nat.lt_of_le_of_lt (Nat.add_le_add_left (Nat.le_trans (Nat.add_le_add_left (Nat.le_trans k j) 1) (by decide)) u) h
theorem ar_pred {a b : Nat} (h : a ≤ b - 1) (k : b ≠ 0) : a + 1 ≤ b := Nat.le_trans (Nat.succ_le_succ h) (Nat.le_of_eq (Nat.succ_pred_eq_of_ne_zero k))
theorem ar_ne {a b : Nat} (k : Nat) (h : b = a + (k + 1)) : a ≠ b := by rw [h]; exact Nat.ne_of_lt (Nat.lt_add_of_pos_right (Nat.succ_pos k))
theorem ar_end {n i : Nat} (h : i ≤ n) (k : ¬ i < n) : i = n := Nat.le_antisymm h (Nat.le_of_not_lt k)
theorem ar_lv (lv : Nat) : ((lv : Int) - 1).toNat = lv - 1 := by omega
theorem ar_nat {e : Int} (h : 0 ≤ e) : e = (e.toNat : Int) := (Int.toNat_of_nonneg h).symm
theorem ar_lt {e : Int} {n : Nat} (h0 : 0 ≤ e) (h : e < n) : e.toNat < n := by omega
theorem room_0 {a d l : Nat} (h : a + d < l := by assumption) : a < l := Nat.lt_of_le_of_lt (Nat.le_add_right _ _) h
theorem room_1 {a d e l : Nat} (h : a + d < l := by assumption) (he : Nat.ble e d = true := by exact rfl) : a + e < l := Nat.lt_of_le_of_lt (Nat.add_le_add_left (Nat.le_of_ble_eq_true he) _) h
theorem room_2 {a c d e l : Nat} (h : a + d < l := by assumption) (he : Nat.ble (c + e) d = true := by exact rfl) : a + c + e < l := by rw [Nat.add_assoc]; exact room_1 h he
theorem room_3 {a b c d e l : Nat} (h : a + d < l := by assumption) (he : Nat.ble (b + c + e) d = true := by exact rfl) : a + b + c + e < l := by rw [Nat.add_assoc a b c]; exact room_2 h he
section
variable {a b c d e f g k : Prop}
theorem pt1 (h : a ∧ b := by assumption) : a := h.1
theorem pt2 (h : a ∧ b ∧ c := by assumption) : b := h.2.1
theorem pt3 (h : a ∧ b := by assumption) : b := h.2
theorem pt4 (h : a ∧ b ∧ c ∧ d := by assumption) : c := h.2.2.1
theorem pt5 (h : a ∧ b ∧ c := by assumption) : c := h.2.2
theorem pt6 (h : a ∧ b ∧ c ∧ d ∧ e := by assumption) : d := h.2.2.2.1
theorem pt7 (h : a ∧ b ∧ c ∧ d := by assumption) : d := h.2.2.2
theorem pt8 (h : a ∧ b ∧ c ∧ d ∧ e ∧ f := by assumption) : e := h.2.2.2.2.1
theorem pt9 (h : a ∧ b ∧ c ∧ d ∧ e := by assumption) : e := h.2.2.2.2
theorem pt10 (h : a ∧ b ∧ c ∧ d ∧ e ∧ f ∧ g := by assumption) : f := h.2.2.2.2.2.1
theorem pt11 (h : a ∧ b ∧ c ∧ d ∧ e ∧ f := by assumption) : f := h.2.2.2.2.2
theorem pt12 (h : a ∧ b ∧ c ∧ d ∧ e ∧ f ∧ g ∧ k := by assumption) : g := h.2.2.2.2.2.2.1
theorem pt13 (h : a ∧ b ∧ c ∧ d ∧ e ∧ f ∧ g := by assumption) : g := h.2.2.2.2.2.2
end
theorem all_1 {D : Addr} {l : List (Addr × Obj)} (h : Off1 D l := by assumption) : ∀ p ∈ l, p.1 ≠ D := off1_all h
theorem all_2 {D : Addr} {l : List (Addr × Obj)} (h : AllLt D l := by assumption) : ∀ p ∈ l, p.1 ≠ D := allLt_all h
section
variable {g h : Heap} {L x : Addr} {m : Str → Option Value} {led R : List (Addr × Obj)} {o : Obj}
theorem at_1 (N : News g L h led := by k_asm) (k : (x, o) ∈ led := by k_mem) : h.get? x = some o := News.get N k
theorem at_2 (F : Fr g L h m := by k_asm) (k : g.get? x = some o := by assumption) : h.get? x = some o := Fr.keep F _ _ k
theorem kept_get3 (F : Fr g L h m := by k_asm) (N : News g L h led := by k_asm) (k : g.get? x = some o ∨ (x, o) ∈ R := by assumption) (sub : ∀ p ∈ R, p ∈ led := by (intro q hq; repeat (first | exact hq | apply List.Mem.tail))) : h.get? x = some o := by
  rcases k with k | k
  · exact F.keep _ _ k
  · exact (N _ (sub _ k)).1
theorem list_1 {vs : Array Value} {n : Nat} (e : h.get? x = some (listOf vs n) := by tb_start) : h.IsList x vs := ⟨_, e, rfl, _, rfl⟩
end
end Mine
end
section
open PySem PySem.W PyProof.Rows PySem.Calls
namespace Mine
open PyProof.Rows.LCg PyProof.Rows.LCt
section
variable {prog : Program} {w : World} {A A₀ : Around} {s : Shared} {K : Frag} {L : Addr} {h₀ base : Heap} {m mg mb : Str → Option Value} {news : List (Addr × Obj)} {p : Program} {loose : List Str} {mean : ExcName → Option Value}
theorem enterD {env : Env} {outer : List Env} {R : Result → Shared → Prop} {name qual : Str} {params : Arguments} {body : List Stmt} {scope : Scope} {dV kV doc pm cdv ct oc : Value} {an od : Option Addr} {osl : Array (Option Value)} {f : Addr} {args : Args} {binds : List (Str × Value)}
    (h : ∀ g L' h₁, Fr h₀ L g m → Fr g L' h₁ (fun y => binds.reverse.lookup y) → News g L' h₁ news → Below A base (env :: outer) g → K.In g → Top p loose mean mg mb g → GSub s.heap g (news.map (·.1)) →
      wpAny (model prog w) (A.deeper (envOf qual scope L' f cdv)) (execs body (envOf qual scope L' f cdv))
        (fun fl s' => LeaveK h₀ L m g R (match fl with | .ret v => v | _ => .none) s')
        (fun e s' => wpAny (model prog w) (A.deeper (envOf qual scope L' f cdv)) (leaving (envOf qual scope L' f cdv) e) (fun _ s'' => R (.error e) s'') (fun e' s'' => R (.error e') s'') s')
        { s with heap := h₁, toks := s.toks + binds.length })
    (hA : A.frames = some (env :: outer) := by exact rfl) (F : Fr h₀ L s.heap m := by assumption) (X₀ : K.In h₀ := by assumption) (B : Below A₀ base outer h₀ := by k_asm) (N : News h₀ L s.heap news := by k_asm) (T : Top p loose mean mg mb h₀ := by k_asm) (hf : env.frame = some L := by k_asm) (hke : env.scope.kind = .function := by k_asm)
    (ho : K.lookup f = some ⟨oc, od, .func (fnOf name qual params body scope dV kV doc pm an cdv ct), osl⟩ := by k_is) (hcd : codeIn K cdv qual = true := by k_is) (hroom : A.depth < recursionLimit := by k_room)
    (hbind : BindsTo s (fnOf name qual params body scope dV kV doc pm an cdv ct) args binds := by first | exact BindsTo.of_eq rfl | exact binds_K (by k_in) rfl (by k_is) rfl rfl rfl) (hcell : ∀ x ∈ scope.names, x.2 ≠ .cell := by decide) (hloc : ∀ y ∈ binds, scope.names.lookup y.1 = some .local := by exact locs rfl)
    (hco : scope.isCoroutine = false := by exact rfl) (hgen : scope.isGenerator = false := by exact rfl) (hk : scope.kind = .function := by exact rfl) : codeAny (model prog w) A (.call (.ref f) args) R s :=
  code_defG B F X₀ N T hA hf hke ho hcd hroom hbind hloc h hco hgen hk hcell
theorem enterC {env : Env} {outer : List Env} {R : Result → Shared → Prop} {name qual : Str} {params : Arguments} {body : List Stmt} {scope : Scope} {dV kV doc pm cdv ct oc : Value} {an od : Option Addr} {osl : Array (Option Value)} {f : Addr} {args : Args} {binds : List (Str × Value)}
    (h : ∀ g L' h₁ tk cells, Fr h₀ L g m → Fr g L' h₁ (bindL (envOfC qual scope L' f cdv).kindOf binds fun _ => none) → News g L' h₁ (cells ++ news) →
      CellsAre (bindC (envOfC qual scope L' f cdv).kindOf binds fun _ => none) (cellsFrom (L' + 1) scope.names []) cells → Below A base (env :: outer) g → K.In g → Top p loose mean mg mb g → (∀ p ∈ news, p.1 < L') → GSub s.heap g (news.map (·.1)) →
      wpAny (model prog w) (A.deeper (envOfC qual scope L' f cdv)) (execs body (envOfC qual scope L' f cdv))
        (fun fl s' => LeaveK h₀ L m g R (match fl with | .ret v => v | _ => .none) s')
        (fun e s' => wpAny (model prog w) (A.deeper (envOfC qual scope L' f cdv)) (leaving (envOfC qual scope L' f cdv) e) (fun _ s'' => R (.error e) s'') (fun e' s'' => R (.error e') s'') s')
        { s with heap := h₁, toks := tk })
    (hA : A.frames = some (env :: outer) := by exact rfl) (F : Fr h₀ L s.heap m := by assumption) (X₀ : K.In h₀ := by assumption) (B : Below A₀ base outer h₀ := by k_asm) (N : News h₀ L s.heap news := by k_asm) (T : Top p loose mean mg mb h₀ := by k_asm) (hf : env.frame = some L := by k_asm) (hke : env.scope.kind = .function := by k_asm)
    (ho : K.lookup f = some ⟨oc, od, .func (fnOf name qual params body scope dV kV doc pm an cdv ct), osl⟩ := by k_is) (hcd : codeIn K cdv qual = true := by k_is) (hroom : A.depth < recursionLimit := by k_room)
    (hbind : BindsTo s (fnOf name qual params body scope dV kV doc pm an cdv ct) args binds := by first | exact BindsTo.of_eq rfl | exact binds_K (by k_in) rfl (by k_is) rfl rfl rfl) (hkind : (binds.all fun y => scope.names.lookup y.1 == some .local || scope.names.lookup y.1 == some .cell) = true := by exact rfl)
    (hnd : ((cellsFrom 0 scope.names []).map (·.1)).Nodup := by decide +kernel) (hco : scope.isCoroutine = false := by exact rfl) (hgen : scope.isGenerator = false := by exact rfl) (hk : scope.kind = .function := by exact rfl) : codeAny (model prog w) A (.call (.ref f) args) R s := by
  obtain ⟨FG, BG, st, lv⟩ := groundX (R := R) B F N hA hf hke
  have X := X₀.keeps F.keep
  refine codeAny_call_function (fd := fnX name qual params body scope [] dV kV doc pm an cdv ct) hroom (X _ _ ho) rfl hco hgen rfl (codeRec_of X hcd) (hbind _ _ _ _ ?_)
  refine wpAny_newFunctionEnv_cells hk (kindsX hkind _) fun env' he s' x => ?_
  subst he
  have hk₁ := x.toInCall.keep
  refine ⟨(T.nolimit.keeps F.keep).keeps hk₁, codeAny_func ?_⟩
  obtain ⟨h₁, tk, rfl, _⟩ := x.done
  obtain ⟨cells, NC, Y⟩ := Cl.news (h₀ := s.heap) (Nat.le_refl _) fun n c hm => ⟨x.cell n c (lookup_of_mem_nodup (cellsFrom_names scope.names 0 (s.heap.objs.size + 1) [] [] rfl ▸ hnd) hm), x.above n c hm⟩
  have NN : News (hideAll s.heap (news.map (·.1))) s.heap.objs.size h₁ (cells ++ news) := fun q hq => by
    rcases List.mem_append.mp hq with hq | hq
    · obtain ⟨q1, q2, q3⟩ := NC q hq
      refine ⟨q1, q2, ?_⟩
      cases e : (hideAll s.heap (news.map (·.1))).get? q.1 with
      | none => rfl
      | some o => rw [of_hideAll _ e] at q3; cases q3
    · exact ⟨hk₁ _ _ (N q hq).1, Nat.ne_of_lt (Heap.lt_size (N q hq).1), hideAll_none _ (List.mem_map_of_mem hq)⟩
  exact wpAny_mono (h _ _ h₁ tk cells FG ⟨x.toInCall.ns, fun b o e => hk₁ b o (of_hideAll _ e), Nat.le_of_eq (hideAll_size _ _)⟩ NN Y BG (X₀.keeps st) (T.keeps st) (fun q hq => Heap.lt_size (N q hq).1) fun b o e n => hideAll_get _ e n)
    (fun fl s' hl => lv _ _ hl) fun _ _ y => y
end
noncomputable def KeepBut (as : List Addr) (h h' : Heap) : Prop := ∀ b o, b ∉ as → h.get? b = some o → h'.get? b = some o
theorem KeepBut.of {h g h' : Heap} {as : List Addr} (G : GSub h g as) (k : Keep g h') : KeepBut as h h' := fun b o n e => k b o (G b o e n)
theorem Keep.but {h h' : Heap} {as : List Addr} (k : Keep h h') : KeepBut as h h' := fun b o _ e => k b o e
theorem KeepBut.keep {h h' : Heap} (k : KeepBut [] h h') : Keep h h' := fun b o e => k b o (fun q => nomatch q) e
theorem KeepBut.trans {a b c : Heap} {as : List Addr} (x : KeepBut as a b) (y : KeepBut as b c) : KeepBut as a c := fun q o n e => y q o n (x q o n e)
theorem KeepBut.mono {a b : Heap} {as bs : List Addr} (x : KeepBut as a b) (h : ∀ q ∈ as, q ∈ bs) : KeepBut bs a b := fun q o n e => x q o (fun z => n (h q z)) e
theorem GSub.fresh {h g h' : Heap} {L : Addr} {as : List Addr} {news : List (Addr × Obj)} {D : Addr} {o : Obj} (G : GSub h g as) (N : News g L h' news) (hm : (D, o) ∈ news) (hD : D ∉ as) : h.get? D = none := by
  cases e : h.get? D with
  | none => rfl
  | some o' => have := G D o' e hD; rw [(N _ hm).2.2] at this; cases this
theorem Fr.but {h₀ h h' : Heap} {L : Addr} {m : Str → Option Value} {as : List Addr} (F : Fr h₀ L h m) (k : KeepBut as h h') (hL : L ∉ as) (h0 : ∀ a ∈ as, h₀.get? a = none) : Fr h₀ L h' m :=
  ⟨F.ns.at' fun o e => k L o hL e, fun b o e => k b o (fun q => by rw [h0 b q] at e; cases e) (F.keep b o e), F.above⟩
theorem newsSub {h₀ h : Heap} {L : Addr} {news news' : List (Addr × Obj)} (N : News h₀ L h news) (k : ∀ p ∈ news', p ∈ news) : News h₀ L h news' := fun p hp => N p (k p hp)
theorem News.but {h₀ h h' : Heap} {L : Addr} {news : List (Addr × Obj)} {as : List Addr} (N : News h₀ L h news) (k : KeepBut as h h') (hn : ∀ p ∈ news, p.1 ∉ as) : News h₀ L h' news := fun p hp => ⟨k _ _ (hn p hp) (N p hp).1, (N p hp).2⟩
theorem news_cons {h₀ h : Heap} {L : Addr} {news : List (Addr × Obj)} {p : Addr × Obj} (a : h.get? p.1 = some p.2) (b : p.1 ≠ L) (c : h₀.get? p.1 = none) (N : News h₀ L h news) : News h₀ L h (p :: news) := fun q hq => by
  rcases List.mem_cons.mp hq with rfl | hq
  · exact ⟨a, b, c⟩
  · exact N q hq
theorem none_of_keep {h₀ h : Heap} {D : Addr} (k : Keep h₀ h) (e : h.get? D = none) : h₀.get? D = none := by
  cases q : h₀.get? D with
  | none => rfl
  | some o => rw [k D o q] at e; cases e
theorem Fr.neOf {h₀ h : Heap} {L D : Addr} {m : Str → Option Value} (F : Fr h₀ L h m) (e : h.get? D = none) : D ≠ L := by
  rintro rfl
  obtain ⟨o, _, _, q, _⟩ := F.ns
  rw [e] at q; cases q
theorem instAt2 {h : Heap} {x C dx : Addr} {od : Obj} {sl : Array (Option Value)} (hx : h.get? x = some ⟨.ref C, some dx, .plain, sl⟩ := by tb_start) (hd : h.get? dx = some od := by tb_start) : InstAt h x ⟨.ref C, some dx, .plain, sl⟩ C (some od) := ⟨hx, rfl, rfl, hd⟩
theorem ne_of_obj {h : Heap} {a b : Addr} {o o' : Obj} (x : h.get? a = some o) (y : h.get? b = some o') (n : o.cls ≠ o'.cls) : @Ne Nat a b := fun e => by
  have e' : a = b := e
  subst e'
  rw [x] at y
  exact n (congrArg Obj.cls (Option.some.inj y))
theorem notin1 {a b : Addr} (x : @Ne Nat a b) : a ∉ [b] := fun q => x (List.mem_singleton.mp q)
theorem notin2 {a b c : Addr} (x : @Ne Nat a b) (y : @Ne Nat a c) : a ∉ [b, c] := fun q => by
  rcases List.mem_cons.mp q with q | q
  · exact x q
  · exact y (List.mem_singleton.mp q)
@[irreducible] def Stop (P : Prop) : Prop := P
theorem Stop.of {P : Prop} (h : Stop P) : P := by unfold Stop at h; exact h
theorem Stop.mk {P : Prop} (h : P) : Stop P := by unfold Stop; exact h
section
variable {M : Model} {A : Around} {s : Shared} {Q : Value → Shared → Prop} {E : Value → Shared → Prop}
theorem stop_cmp {op : CmpOp} {a b : Addr} (h : Stop (wpAny M A (compareOp op (.ref a) (.ref b)) Q E s)) : wpAny M A (compareOp op (.ref a) (.ref b)) Q E s := h.of
theorem stop_sub {v sl : Expr} {a : Addr} {i : Int} {t : Tok} (h : Stop (wpAny M A (subscriptTail v sl (.ref a) (.int i t)) Q E s)) : wpAny M A (subscriptTail v sl (.ref a) (.int i t)) Q E s := h.of
theorem stop_call {a : Addr} {xs : List Value} {ys : List (Str × Value)} (h : Stop (wpAny M A (call (.ref a) xs ys) Q E s)) : wpAny M A (call (.ref a) xs ys) Q E s := h.of
end
theorem news_after {h₀ h h' : Heap} {L d : Addr} {o o' : Obj} {news news' : List (Addr × Obj)} (N : News h₀ L h news) (kb : KeepBut [d] h h') (e : h'.get? d = some o') (U : Upd d o o' news news') : News h₀ L h' news' := by
  obtain ⟨pre, post, rfl, rfl, a, b⟩ := U.split
  intro q hq
  rcases List.mem_append.mp hq with hq | hq
  · have z := N q (List.mem_append_left _ hq)
    exact ⟨kb _ _ (fun y => a q hq (List.mem_singleton.mp y)) z.1, z.2⟩
  · rcases List.mem_cons.mp hq with rfl | hq
    · exact ⟨e, (N (d, o) (List.mem_append_right _ (.head _))).2⟩
    · have z := N q (List.mem_append_right _ (.tail _ hq))
      exact ⟨kb _ _ (fun y => b q hq (List.mem_singleton.mp y)) z.1, z.2⟩
theorem fresh_off {h₀ h : Heap} {L D : Addr} : ∀ {news : List (Addr × Obj)}, News h₀ L h news → h.get? D = none → Off1 D news
  | [], _, _ => trivial
  | p :: r, N, e => ⟨(fun q => by have q' : p.1 = D := q; have := (N p (.head _)).1; rw [q', e] at this; cases this), fresh_off (fun q hq => N q (.tail _ hq)) e⟩
theorem notin3 {a b c d : Addr} (x : @Ne Nat a b) (y : @Ne Nat a c) (z : @Ne Nat a d) : a ∉ [b, c, d] := fun q => by
  rcases List.mem_cons.mp q with q | q
  · exact x q
  · exact notin2 y z q
theorem getRef {as : List Addr} {i : Nat} {v : Value} (h : (as.map Value.ref).toArray[i]? = some v) : ∃ a, as[i]? = some a ∧ v = .ref a := by
  have h' : (as.map Value.ref)[i]? = some v := by simpa using h
  rw [List.getElem?_map] at h'
  cases q : as[i]? with
  | none => rw [q] at h'; cases h'
  | some a => rw [q] at h'; exact ⟨a, rfl, (Option.some.inj h').symm⟩
theorem le_pred {h : Heap} {b : Addr} {o : Obj} (e : h.get? b = some o) : b ≤ h.objs.size - 1 := Nat.le_sub_one_of_lt (Heap.lt_size e)
theorem News.ne_of {h₀ h : Heap} {L : Addr} {news : List (Addr × Obj)} {p : Addr × Obj} (N : News h₀ L h news) (hp : p ∈ news) : @Ne Nat p.1 L := (N p hp).2.1
end Mine
end
section
open PySem PySem.W PyProof.Rows PySem.Calls
namespace Mine
section
variable {prog : Program} {w : World} {A : Around} {E : Value → Shared → Prop} {s : Shared} {c P : Addr} {ps : Array Value} {mg : Str → Option Value} {bm : Addr} {ob : Obj}
theorem genCode {env : Env} {pos : Pos} {qn : Str} {scope : Scope} {Q : Value → Shared → Prop} (hcode : env.code = .ref c) (C : CodeHd s.heap c P) (hP : s.heap.get? P = some (tabObj ps)) (ht : TriplesOk ps.toList)
    (h : ∀ cv h' tk ps', Heap.ExtBut P s.heap h' → s.heap.objs.size ≤ h'.objs.size → h'.get? P = some (tabObj ps') → TriplesOk ps'.toList → Q cv { s with heap := h', toks := tk }) :
    wpAny (model prog w) A (genexprCode env pos qn scope) Q E s := by
  cases hf : codeAmong pos ps.toList with
  | some cv => exact wpAny_codeAt_hit hcode (C.code hP ht) hf (h cv s.heap s.toks ps (fun _ _ _ e => e) (Nat.le_refl _) hP ht)
  | none =>
    refine wpAny_genexprCodeX hcode (C.code hP ht) (C.tab hP) hf fun c' h' tk hx hge hlt hcd _ htab _ => ?_
    exact h _ h' tk _ hx (Nat.le_trans hge (Nat.le_of_lt hlt)) htab.2 (by
      rw [Array.toList_append]; exact TriplesOk_snoc _ _ _ _ ht)
inductive GenS (prog : Program) (w : World) (A : Around) (env : Env) (c P : Addr) (ps : Array Value) (mg : Str → Option Value) (bm : Addr) (ob : Obj) (elt : Expr) (x : Str) (scope : Scope) (cl : List (Str × Addr)) (Q : Value → Shared → Prop) (xv : Value) (s₁ : Shared) : Prop
  | mk  l items (F : Nat → Value → Prop) (h1 : xv = .ref l) (h2 : s₁.heap.IsList l items) (h3 : AllBare s₁.gens) (h4 : s₁.heap.NoLimit) (h5 : CodeHd s₁.heap c P) (h6 : s₁.heap.get? P = some (tabObj ps)) (h7 : TriplesOk ps.toList) (h8 : P ≠ cStatics) (h9 : BMod s₁.heap env.globals mg bm ob) (h10 : (∀ (cv : Value) (C : Addr) (A' : Around) E' i v (t : Shared) m₂, A'.handled = none → A'.depth ≤ A.depth + 1 → A'.units ≤ A.units + 8 → items[i]? = some v → t.heap.Ns C m₂ → m₂ x = some v → KeepBut [P] s₁.heap t.heap →
          wpAny (model prog w) A' (eval elt (genEnv scope cl C cv builtinsNs env)) (fun y s₃ => F i y ∧ Keeps t s₃) E' t)) (h11 : (∀ (a : Addr) (s₅ : Shared) ps', KeepBut [P] s₁.heap s₅.heap → s₅.heap.get? P = some (tabObj ps') → TriplesOk ps'.toList → AllBare s₅.gens → s₅.os = s₁.os →
          Gen prog w A (s₁.heap.objs.size - 1) a items.size F s₅ → Q (.ref a) s₅)) : GenS prog w A env c P ps mg bm ob elt x scope cl Q xv s₁
theorem eval_genexp {env : Env} {elt iter : Expr} {x : Str} {px : Pos} {scope : Scope} {cl : List (Str × Addr)} {pos : Pos} {Q : Value → Shared → Prop}
    (hcode : env.code = .ref c) (hh : A.handled = none) (hco : scope.isCoroutine = false) (hclos : closureFor scope env = pure cl) (hcell : ∀ y ∈ scope.names, y.2 ≠ .cell) (h0 : scope.names.lookup (".0" : Str) = some NameKind.local)
    (hx : scope.names.lookup x = some .local) (hkind : scope.kind = .function) (hroom : A.depth < recursionLimit)
    (h : wpAny (model prog w) A (eval iter env) (fun xv s₁ => Stop (GenS prog w A env c P ps mg bm ob elt x scope cl Q xv s₁)) E s)
    (hs : ∀ x, genFold iter env x = pure x) :
    wpAny (model prog w) A (eval (.GeneratorExp elt [⟨.Name x px, iter, [], 0⟩] scope pos) env) Q E s := by
  refine wpAny_GeneratorExp_walksQD hh hco hclos hcell h0 hx hkind hroom (wpAny_mono h (fun xv s₁ h₁ => ?_) fun _ _ e => e) hs
  obtain ⟨l, items, F, rfl, hl, hG, hlim, hC, hP, htr, hPs, M, turn, fin⟩ := h₁.of
  have hlt : l < s₁.heap.objs.size := by obtain ⟨_, e, _⟩ := hl; exact Heap.lt_size e
  have hPlt : P < s₁.heap.objs.size := Heap.lt_size hP
  have hlP : l ≠ P := fun e => by
    obtain ⟨o, ho, hc, _⟩ := hl
    rw [e, hP] at ho; cases ho; exact absurd hc (by simp)
  refine wpAny_pyIter_list hl ⟨hlim.push _, ?_⟩
  generalize hs₂ : ({ s₁ with heap := s₁.heap.push { cls := .type "list_iterator", data := .fields #[.ref l, .int 0 0] } } : Shared) = s₂
  have up : Keep s₁.heap s₂.heap := fun b o e => by rw [← hs₂]; exact Heap.get?_push_of_some _ e
  have hsz₂ : s₂.heap.objs.size = s₁.heap.objs.size + 1 := by rw [← hs₂]; exact Heap.size_push ..
  have hg₂ : s₂.gens = s₁.gens := by rw [← hs₂]
  have ho₂ : s₂.os = s₁.os := by rw [← hs₂]
  have hst₀ : s₂.heap.IsListIter s₁.heap.objs.size l 0 ∧ s₂.heap.IsList l items := by
    rw [← hs₂]; exact ⟨⟨_, Heap.get?_push_size _ rfl, rfl, rfl⟩, hl.at fun o e => Heap.get?_push_of_some _ e⟩
  have hlim₂ : s₂.heap.NoLimit := by rw [← hs₂]; exact hlim.push _
  refine genCode hcode (hC.keeps up) (up _ _ hP) htr fun cv h₃ tk₃ ps' hx₃ hsz₃ hP₃ ht₃ => ?_
  have M₃ : BMod h₃ env.globals mg bm ob := (M.keeps up).extBut (hC.keeps up |>.tab (up _ _ hP)) hx₃
  refine wpAny_builtinsFor M₃.ns M₃.name M₃.ne M₃.obj M₃.cls M₃.dict M₃.data ?_
  have hl₃ : h₃.NoLimit := hlim₂.extBut hx₃ (Ne.symm hPs)
  have hIw : ∀ b ∈ [s₁.heap.objs.size], b ∈ [s₁.heap.objs.size, l] := fun b hb => by rw [List.mem_singleton.mp hb]; exact .head _
  have hcw : cStatics ∉ [s₁.heap.objs.size] := fun hm => by
    obtain ⟨_, hns, _⟩ := hlim
    have h1 := hns.lt
    rw [List.mem_singleton.mp hm] at h1
    exact Nat.lt_irrefl _ h1
  refine ⟨s₁.heap.objs.size, [s₁.heap.objs.size, l], [s₁.heap.objs.size], items.size, _, _, fun _ => true, F, rfl, fun A' hA => Walks.list hA _ _ (Nat.ne_of_lt hlt) items, ?_, ?_, hl₃, hcw, fun href hhref => ?_, fun a h₅ tk gs hgb hag hsz₅ hk₅ W hat => ?_⟩
  · refine ⟨?_, ?_⟩
    · obtain ⟨o, e, r⟩ := hst₀.1
      exact ⟨o, hx₃ _ _ (Ne.symm (Nat.ne_of_lt hPlt)) e, r⟩
    · exact hst₀.2.at fun o e => hx₃ _ _ hlP e
  · intro b hb
    refine Nat.lt_of_lt_of_le ?_ hsz₃
    rw [hsz₂]
    rcases List.mem_cons.mp hb with rfl | hb
    · exact Nat.lt_succ_self _
    · rw [List.mem_singleton.mp hb]; exact Nat.lt_succ_of_lt hlt
  · refine ⟨fun A' E' i v t m₂ hA hD hU hP' hn hm hkp => ?_, fun A' E' i v t m₂ hA hD hU hP' hp hn hm hkp => ?_⟩
    · exact wpAny_pure ⟨rfl, t.heap, t.toks, rfl, fun _ _ e => e⟩
    · refine turn cv _ A' E' i v t m₂ hA hD hU hP' hn hm fun b o hb e => ?_
      have hbP : b ≠ P := fun q => hb (by rw [q]; exact .head _)
      have e₃ := hx₃ b o hbP (up b o e)
      exact hkp b (List.mem_range.mpr (Heap.lt_size e₃)) (fun q => by rw [List.mem_singleton.mp q] at e; exact Nat.lt_irrefl _ (Heap.lt_size e)) o (hhref b o e₃)
  · have hpass : (passing (fun _ => true) items.size 0) = List.range items.size := by simp [passing]
    rw [hpass, List.length_range] at W
    refine fin a _ ps' (fun b o hb e => hk₅ b o (hx₃ b o (fun q => hb (by rw [q]; exact .head _)) (up b o e))) (hk₅ _ _ hP₃) ht₃ ?_ ho₂ ?_
    · show AllBare (s₂.gens.push gs)
      rw [hg₂]; exact hG.push hgb
    · have G : Gen prog w A (s₁.heap.objs.size - 1) a items.size (fun j y => ∃ i, (List.range items.size)[j]? = some i ∧ F i y) _ := ⟨_, _, _, _, W, hat, (fun i s' st => st.1.typeIs), List.mem_cons_self, fun b hb => ?_, fun b hb => ?_⟩
      · exact G.imp fun j y ⟨i, hi, hF⟩ => by
          obtain ⟨hlt, rfl⟩ := List.getElem?_eq_some_iff.mp hi
          simpa using hF
      · show b < h₅.objs.size
        rw [hsz₅]
        rcases List.mem_cons.mp hb with rfl | hb
        · exact Nat.lt_succ_self _
        · rcases List.mem_cons.mp hb with rfl | hb
          · exact Nat.lt_succ_of_lt hag
          · exact Nat.lt_succ_of_lt (Nat.lt_trans (List.mem_range.mp hb) hag)
      · rcases List.mem_cons.mp hb with rfl | hb
        · exact Nat.lt_of_lt_of_le (Nat.lt_of_le_of_lt (Nat.sub_le _ _) (by rw [hsz₂]; exact Nat.lt_succ_self _)) hsz₃
        · rw [List.mem_singleton.mp hb]; exact Nat.sub_lt (Nat.lt_of_le_of_lt (Nat.zero_le _) hlt) Nat.one_pos
theorem any_gen {h₀ : Heap} {L K a : Addr} {m : Str → Option Value} {n : Nat} {q : Nat → Bool} {Q : Value → Shared → Prop} (F : Fr h₀ L s.heap m) (G : AllBare s.gens) (X : Gen prog w A K a n (fun j y => y = .bool (q j)) s) (hK : L ≤ K)
    (hQ : ∀ s', Fr h₀ L s'.heap m → AllBare s'.gens → s'.os = s.os → (∀ b o, b ≤ K → s.heap.get? b = some o → s'.heap.get? b = some o) → Q (.bool ((List.range n).any q)) s') :
    wpAny (model prog w) A (call (.builtin "any") [.ref a]) Q E s :=
  any_rowsK F G X hK q (fun j v s Q E hv hQ => by subst hv; exact wpAny_truthy_bool hQ) hQ
theorem gen_local {M : Model} {x : Str} {pos : Pos} {v cv : Value} {C : Addr} {scope : Scope} {cl : List (Str × Addr)} {env : Env} {m₂ : Str → Option Value} {Q : Value → Shared → Prop} (hn : s.heap.Ns C m₂) (hx : m₂ x = some v) (h : Q v s)
    (hk : (genEnv scope cl C cv builtinsNs env).scope.kind = .function) (hl : (genEnv scope cl C cv builtinsNs env).kindOf x = some .local) (hd : (x == ("__debug__" : Str)) = false := by decide) :
    wpAny M A (eval (.Name x pos) (genEnv scope cl C cv builtinsNs env)) Q E s := wpAny_Name (wpAny_loadName_local hk hl hn hx h) hd
theorem gen_free {M : Model} {x : Str} {pos : Pos} {v cv : Value} {C k : Addr} {o : Obj} {scope : Scope} {cl : List (Str × Addr)} {env : Env} {Q : Value → Shared → Prop} (hc : cl.lookup x = some k) (ho : s.heap.get? k = some o) (hd : o.data = .cell (some v)) (h : Q v s)
    (hk : (genEnv scope cl C cv builtinsNs env).scope.kind = .function) (hl : (genEnv scope cl C cv builtinsNs env).kindOf x = some .free) (hb : (x == ("__debug__" : Str)) = false := by decide) (hn : (x == ("__classdict__" : Str)) = false := by decide) :
    wpAny M A (eval (.Name x pos) (genEnv scope cl C cv builtinsNs env)) Q E s := wpAny_Name (wpAny_loadName_free hk hl hc ⟨o, ho, hd⟩ h hn) hb
theorem bmod_of {p : Program} {loose : List Str} {mean : ExcName → Option Value} {mb : Str → Option Value} {h : Heap} (T : Top p loose mean mg mb h) : ∃ bm ob, BMod h mainGlobals mg bm ob := by
  obtain ⟨bm, ob, a, b, c, d, e, f⟩ := T.bmain
  exact ⟨bm, ob, T.g, a, b, c, d, e, f⟩
theorem any_range_get (as : List Addr) (y : Addr) : ((List.range as.length).any fun j => as[j]? == some y) = decide (y ∈ as) := by
  rw [Bool.eq_iff_iff, List.any_eq_true, decide_eq_true_eq]
  constructor
  · rintro ⟨j, hj, e⟩
    exact List.mem_of_getElem? (beq_iff_eq.mp e)
  · intro h
    obtain ⟨j, hj, rfl⟩ := List.getElem_of_mem h
    exact ⟨j, List.mem_range.mpr hj, by simp [hj]⟩
theorem ref_beq (a y : Addr) : (Value.ref a == Value.ref y) = (some a == some y) := by
  rw [Bool.eq_iff_iff, beq_iff_eq, beq_iff_eq]
  exact ⟨fun h => by cases h; rfl, fun h => by cases h; rfl⟩
end
end Mine
end
section
open PySem PySem.W PyProof.Rows PySem.Calls
namespace Mine
theorem typeCall_list0 : checkTypeCall "list" ⟨[], []⟩ = pure () := by kernel_rfl
theorem newCall_list0 : checkBuiltinCall "list.__new__" ⟨[.type "list"], []⟩ = pure () := by kernel_rfl
theorem typeCall_dict0 : checkTypeCall "dict" ⟨[], []⟩ = pure () := by kernel_rfl
theorem newCall_dict0 : checkBuiltinCall "dict.__new__" ⟨[.type "dict"], []⟩ = pure () := by kernel_rfl
section
variable {prog : Program} {w : World} {A : Around} {E : Value → Shared → Prop} {s : Shared}
theorem list_new0 {Q₁ : Value → Shared → Prop}
    (h : Q₁ (.ref s.heap.objs.size) { s with heap := s.heap.push { cls := .type "list", data := .seq #[] } }) :
    codeAny (model prog w) A (.call (.builtin "list.__new__") ⟨[.type "list"], []⟩) (wants Q₁ E) s := by
  refine codeAny_of_tree ?_
  show wpAny _ A.in1 (do checkBuiltinCall "list.__new__" ⟨[.type "list"], []⟩; again (.builtin "list.__new__" ⟨[.type "list"], []⟩)) _ _ s
  refine wpAny_bind (wpAny_of_eq newCall_list0 (wpAny_pure ⟨plainId_quiet F.plain_list_new _, codeAny_builtin_stack F.entry_list_new rfl fun p st => ?_⟩))
  rw [Around.under_plainId F.plain_list_new _]
  have hsub := sub_list_self
  have hown := owner_list_new
  obtain ⟨hp, g, d, tk, os⟩ := s
  simp only [hown]
  wp_walk
  exact h
theorem dict_new0 {Q₁ : Value → Shared → Prop} (h : Q₁ (.ref s.heap.objs.size) { s with heap := s.heap.push { cls := .type "dict", data := .dict #[] } }) :
    codeAny (model prog w) A (.call (.builtin "dict.__new__") ⟨[.type "dict"], []⟩) (wants Q₁ E) s := by
  refine codeAny_call_builtin F.kt_plain_dict_new F.kt_entry_dict_new (wpAny_of_eq newCall_dict0 ?_)
  have hsub := F.kt_sub_dict
  have hmro := F.kt_mro_dict
  obtain ⟨hp, g, d, tk, os⟩ := s
  unfold Builtin.«dict.__new__»
  wp_walk
  exact h
theorem call_list0 {Q : Value → Shared → Prop}
    (h : ∀ h', (∀ b o, s.heap.get? b = some o → h'.get? b = some o) → h'.objs.size = s.heap.objs.size + 1 → h'.get? s.heap.objs.size = some (listOf #[] 0) → Q (.ref s.heap.objs.size) { s with heap := h' }) :
    wpAny (model prog w) A (call (.type "list") [] []) Q E s := by
  refine callType_codes (Q₁ := fun obj s₁ => obj = .ref s.heap.objs.size ∧ s₁ = { s with heap := s.heap.push { cls := .type "list", data := .seq #[] } }) F.called_list typeCall_list0 F.entry_list_init
    (list_new0 ⟨rfl, rfl⟩) fun obj s₁ h₁ => ?_
  obtain ⟨rfl, rfl⟩ := h₁
  have hS : (s.heap.push { cls := .type "list", data := .seq #[] }).get? s.heap.objs.size = some { cls := .type "list", data := .seq #[] } := Heap.get?_push_size _ rfl
  refine ⟨⟨_, hS, rfl⟩, F.args_list_init_1 _, ?_⟩
  show wpAny _ _ (do let old ← Builtin.List.listItems (.ref s.heap.objs.size); Builtin.List.listUpdate (.ref s.heap.objs.size) (fun _ => #[]); letGo old.toList.reverse; ret .none) _ _ _
  refine wpAny_bind ?_
  unfold Builtin.List.listItems
  refine wpAny_bind (wpAny_seqItems hS rfl (wpAny_pure ?_))
  show wpAny _ _ (updateSeq s.heap.objs.size (fun _ => #[]) >>= fun _ => letGo (#[] : Array Value).toList.reverse >>= fun _ => ret .none) _ _ _
  refine wpAny_bind (wpAny_updateSeq hS rfl ?_)
  have hS₂ := Heap.get?_update_self (Obj.mapSeq (fun _ => (#[] : Array Value))) hS rfl
  refine wpAny_bind (wpAny_letGo (wpAny_pure ⟨rfl, h _ (fun b o e => ?_) ?_ hS₂⟩))
  · exact (Heap.get?_update_other _ _ (fun q => by have := Heap.lt_size e; rw [← q] at this; exact Nat.lt_irrefl _ this)).trans (Heap.get?_push_of_some _ e)
  · exact (show Heap.SameBut s.heap.objs.size _ _ from Heap.SameBut.update ..).1.trans (Heap.size_push ..)
theorem call_dict0 {Q : Value → Shared → Prop}
    (h : Q (.ref s.heap.objs.size) { s with heap := s.heap.push { cls := .type "dict", data := .dict #[] } }) :
    wpAny (model prog w) A (call (.type "dict") [] []) Q E s := by
  refine callType_codes (Q₁ := fun obj s₁ => obj = .ref s.heap.objs.size ∧ s₁ = { s with heap := s.heap.push { cls := .type "dict", data := .dict #[] } }) F.kt_called_dict typeCall_dict0 F.entry_dict_init (dict_new0 ⟨rfl, rfl⟩) ?_
  rintro obj s₁ ⟨rfl, rfl⟩
  have hS : (s.heap.push { cls := .type "dict", data := .dict #[] }).get? s.heap.objs.size = some { cls := .type "dict", data := .dict #[] } := Heap.get?_push_size _ rfl
  have hT : ({ s with heap := s.heap.push { cls := .type "dict", data := .dict #[] } } : Shared).TypeIs (.ref s.heap.objs.size) "dict" := ⟨_, hS, rfl⟩
  refine ⟨hT, F.args_dict_init_1 _, ?_⟩
  unfold Builtin.«dict.__init__»
  refine wpAny_bind ?_
  unfold Builtin.Dict.selfAndRest
  refine wpAny_bind (wpAny_notOrdered_dict hT ?_)
  show wpAny _ _ (pure (s.heap.objs.size, [])) _ _ _
  refine wpAny_pure ?_
  show wpAny _ _ (Builtin.Dict.addKeywords s.heap.objs.size [] >>= _) _ _ _
  exact wpAny_bind (wpAny_pure (wpAny_pure ⟨rfl, h⟩))
variable {h₀ : Heap} {L : Addr} {m : Str → Option Value} {news : List (Addr × Obj)}
theorem list0_K {Q : Value → Shared → Prop}
    (h : ∀ l h', Fr h₀ L h' m → News h₀ L h' ((l, listOf #[] 0) :: news) → (∀ p ∈ news, p.1 < l) → Q (.ref l) { s with heap := h' }) (F : Fr h₀ L s.heap m := by k_asm) (N : News h₀ L s.heap news := by k_asm) : wpAny (model prog w) A (call (.type "list") [] []) Q E s := by
  refine call_list0 fun h' k hsz e => h _ h' (F.keeps k) (news_cons (p := (s.heap.objs.size, listOf #[] 0)) e (Nat.ne_of_gt F.ns.lt) ?_ (N.grown k)) fun p hp => Heap.lt_size (N p hp).1
  cases q : h₀.get? s.heap.objs.size with
  | none => rfl
  | some o => exact absurd (Heap.lt_size (F.keep _ _ q)) (Nat.lt_irrefl _)
theorem dict0_K {Q : Value → Shared → Prop}
    (h : ∀ l h', Fr h₀ L h' m → News h₀ L h' ((l, dictOf [] 0) :: news) → (∀ p ∈ news, p.1 < l) → (l == sysModules) = false → Q (.ref l) { s with heap := h' }) (F : Fr h₀ L s.heap m := by k_asm) (N : News h₀ L s.heap news := by k_asm) (hbig : h₀.NoLimit := by exact Top.nolimit (by k_asm)) : wpAny (model prog w) A (call (.type "dict") [] []) Q E s :=
  call_dict0 (h _ _ (F.push _) (N.push F _) (fun p hp => Heap.lt_size (N p hp).1) (F.notModules (modules_low hbig)))
theorem add_lit {a b : Addr} {its its2 : Array Value} {zs : List Value} {Q : Value → Shared → Prop} (h : ∀ D h', Fr h₀ L h' m → News h₀ L h' ((D, listOf zs.toArray 0) :: news) → (∀ p ∈ news, p.1 < D) → Q (.ref D) { s with heap := h' })
    (F : Fr h₀ L s.heap m := by k_asm) (N : News h₀ L s.heap news := by k_asm) (ha : s.heap.IsList a its := by exact ⟨_, by tb_start, rfl, _, rfl⟩) (hb : s.heap.IsList b its2 := by exact ⟨_, by tb_start, rfl, _, rfl⟩) (e : its.toList ++ its2.toList = zs := by exact rfl)
    (hz : its.toList.length + its2.toList.length ≤ sizeLine := by ((simp only [List.toList_toArray, List.length_map, List.length_cons, List.length_nil, sizeLine_eq]); first | omega | (refine Nat.le_trans (Nat.add_le_add_right (List.length_filter_le _ _) _) ?_; omega))) : wpAny (model prog w) A (binaryOp .Add (.ref a) (.ref b)) Q E s := kmk_add_lit F N ha hb e h hz
theorem dictOf_nil {prog : Program} {w : World} (h : Heap) : (dictOf [] 0).IsDictOf (strKind prog w) [] := by
  obtain ⟨o, ho, hd⟩ := Heap.dictOf_iff.mp (Heap.DictOf.new (knd := strKind prog w) h)
  rw [Heap.get?_push_size _ rfl] at ho
  have e : dictOf [] 0 = o := Option.some.inj ho
  exact e ▸ hd
noncomputable def restNews (h h₀ : Heap) (L : Addr) : List (Addr × Obj) := (List.range h.objs.size).filterMap fun b => if b = L ∨ (h₀.get? b).isSome then none else (h.get? b).map fun o => (b, o)
theorem rest_news {h : Heap} : News h₀ L h (restNews h h₀ L) := fun p hp => by
  obtain ⟨b, _, e⟩ := List.mem_filterMap.mp hp
  split at e
  · cases e
  · rename_i hn
    obtain ⟨o, ho, rfl⟩ := Option.map_eq_some_iff.mp e
    refine ⟨ho, fun q => hn (.inl q), ?_⟩
    cases q : h₀.get? b with
    | none => rfl
    | some o' => exact absurd (.inr (by rw [q]; rfl)) hn
theorem mem_rest {h : Heap} {b : Addr} {o : Obj} (e : h.get? b = some o) (hL : b ≠ L) (h0 : h₀.get? b = none) : (b, o) ∈ restNews h h₀ L :=
  List.mem_filterMap.mpr ⟨b, List.mem_range.mpr (Heap.lt_size e), by rw [if_neg (by rw [h0]; rintro (q | q); exact hL q; cases q), e]; rfl⟩
theorem rest_keep {h h' : Heap} {m' : Str → Option Value} {l : List (Addr × Obj)} (F : Fr h₀ L h m) (F' : Fr h₀ L h' m') (N : News h₀ L h' l) (hl : ∀ p ∈ restNews h h₀ L, p ∈ l) : KeepBut [L] h h' := fun b o hb e => by
  have hL : b ≠ L := fun q => hb (by rw [q]; exact .head _)
  cases q : h₀.get? b with
  | some o' =>
    have := F.keep b o' q
    rw [e] at this; cases this
    exact F'.keep b o q
  | none => exact (N _ (hl _ (mem_rest e hL q))).1
theorem news_off {h : Heap} {D : Addr} (_F : Fr h₀ L h m) (hlt : ∀ p ∈ restNews h h₀ L, p.1 < D) (hD : h₀.get? D = none) (hDL : D ≠ L) : h.get? D = none := by
  cases e : h.get? D with
  | none => rfl
  | some o' => exact absurd (hlt _ (mem_rest e hDL hD)) (Nat.lt_irrefl _)
theorem stored_new {kvs : List (Str × Value)} {k : Str} {v : Value} (h : valueAt kvs k = none) : stored kvs k v = kvs ++ [(k, v)] := by
  unfold stored
  rw [if_neg]
  intro q
  obtain ⟨kv, hm, e⟩ := List.any_eq_true.mp q
  unfold valueAt at h
  rw [Option.map_eq_none_iff, List.find?_eq_none] at h
  exact h kv hm e
theorem valueAt_new {kvs : List (Str × Value)} {k : Str} {v : Value} (h : valueAt kvs k = none) : valueAt (kvs ++ [(k, v)]) k = some v := by
  unfold valueAt at h ⊢
  rw [Option.map_eq_none_iff] at h
  rw [List.find?_append, h]
  simp
theorem item_dict {value slice : PySem.Expr} {d : Addr} {kvs : List (Str × Value)} {k : Str} {t : Tok} {v : Value} {Q : Value → Shared → Prop} (hd : s.heap.DictOf (strKind prog w) d kvs) (hv : valueAt kvs k = some v)
    (h : Q v { s with toks := s.toks + 1 })
    (hs : subscripted slice false (.ref d) (.str k t) = operate [.ref d, .str k t] (getItem (.ref d) (.str k t)) := by with_unfolding_all rfl) :
    wpAny (model prog w) A (subscriptTail value slice (.ref d) (.str k t)) Q E s :=
  tail_any hd.mapOf.typeIs slot_dict_getitem.lookup (wpAny_getItem_of (strKind_is prog w k t) hd.mapOf hv h) hs
end
end Mine
end
section
open PySem PySem.W PyProof.Rows PySem.Calls
namespace Mine
open PyProof.Rows.LCg
section
variable {prog : Program} {w : World} {A : Around} {E : Value → Shared → Prop} {s : Shared} {env : Env}
inductive ForS (prog : Program) (w : World) (A : Around) (env : Env) (x : Str) (px : Pos) (body : List Stmt) (Q : Flow → Shared → Prop) (xv : Value) (s₁ : Shared) : Prop
  | mk  (ax : Addr) (its : List Value) (J : Addr → Nat → Shared → Prop) (h1 : xv = .ref ax) (h2 : s₁.heap.IsList ax its.toArray) (h3 : A.handled = none) (h4 : (∀ I h', s₁.heap.get? I = none → Keep s₁.heap h' → J I 0 { s₁ with heap := h' })) (h5 : (∀ I i s h' tk, J I i s → KeepBut [I] s.heap h' → J I i { s with heap := h', toks := tk })) (h6 : (∀ I i s, J I i s → s.heap.IsList ax its.toArray)) (h7 : (∀ I i v s, its[i]? = some v → J I i s → (∃ o, s.heap.get? I = some o) → wpAny (model prog w) A (assign (.Name x px) env v) (fun _ s₂ => wpAny (model prog w) A (execs body env) (fun f s' => match f with
        | .ret v => Q (.ret v) s'
        | .brk => Q .next s'
        | _ => Stop (J I (i + 1) s' ∧ ∀ o, s.heap.get? I = some o → s'.heap.get? I = some o)) (fun _ _ => False) s₂) (fun _ _ => False) s)) (h8 : (∀ I s, J I its.length s → Q .next s)) : ForS prog w A env x px body Q xv s₁
theorem For_S {x : Str} {px pos : Pos} {iter : Expr} {body : List Stmt} {Q : Flow → Shared → Prop}
    (h : wpAny (model prog w) A (eval iter env) (fun xv s₁ => Stop (ForS prog w A env x px body Q xv s₁)) E s)
    (hs : ∀ x, foldedSetIterable iter env x = pure x := by intro _; rfl) :
    wpAny (model prog w) A (exec (.For (.Name x px) iter body [] pos) env) Q E s := by
  refine wpAny_For (wpAny_mono h (fun xv s₁ h₁ => ?_) fun _ _ e => e) hs
  obtain ⟨ax, its, J, rfl, hl, hh, start, stable, list, turn, done⟩ := h₁.of
  have hlt : ax < s₁.heap.objs.size := by obtain ⟨_, e, _⟩ := hl; exact Heap.lt_size e
  refine wpAny_pyIter_list hl ?_
  have hne := Nat.ne_of_lt hlt
  generalize hI : s₁.heap.objs.size = I at hne
  have hfree : s₁.heap.get? I = none := by
    cases e : s₁.heap.get? I with
    | none => rfl
    | some o => exact absurd (Heap.lt_size e) (by rw [hI]; exact Nat.lt_irrefl _)
  have hit : (s₁.heap.push { cls := .type "list_iterator", data := .fields #[.ref ax, .int 0 0] }).IsListIter I ax 0 := by rw [← hI]; exact ⟨_, Heap.get?_push_size _ rfl, rfl, rfl⟩
  have W := Walks.list (prog := prog) (w := w) hh I ax hne its.toArray
  refine codeAny_forLoop (fun k s' => ∃ i, J I i s' ∧ s'.heap.IsListIter I ax i ∧ i ≤ its.length ∧ k = its.length + 1 - i) ?_ (its.length + 1)
    ⟨0, start I _ hfree (fun b o e => Heap.get?_push_of_some _ e), hit, Nat.zero_le _, rfl⟩
  rintro k s' ⟨i, hJ, hIt, hi, rfl⟩
  have st : s'.heap.IsListIter I ax i ∧ s'.heap.IsList ax its.toArray := ⟨hIt, list _ _ _ hJ⟩
  by_cases hlt : i < its.length
  · refine W.item i _ _ _ (by simpa using hlt) st fun v h' tk hP st' hk => ?_
    have hv : its[i]? = some v := by simpa using hP
    obtain ⟨oI, eI, rI⟩ := st'.1
    refine wpAny_mono (turn I i v _ hv (stable I i s' h' tk hJ hk) ⟨oI, eI⟩) (fun _ s₂ h₂ => wpAny_mono h₂ (fun f s₃ h₃ => ?_) fun _ _ e => e.elim) fun _ _ e => e.elim
    have fin : (J I (i + 1) s₃ ∧ ∀ o, h'.get? I = some o → s₃.heap.get? I = some o) → ∃ m, m < its.length + 1 - i ∧ ∃ i, J I i s₃ ∧ s₃.heap.IsListIter I ax i ∧ i ≤ its.length ∧ m = its.length + 1 - i :=
      fun ⟨hJ', hk'⟩ => ⟨its.length + 1 - (i + 1), ar_step hlt, i + 1, hJ', ⟨oI, hk' oI eI, rI⟩, hlt, rfl⟩
    cases f with
    | ret v => exact h₃
    | brk => exact h₃
    | next => exact fin h₃.of
    | cont => exact fin h₃.of
  · obtain rfl : i = its.length := ar_end hi hlt
    refine W.done _ _ _ (by simpa using st) fun h' tk hk => wpAny_execs_nil ?_
    exact done I _ (stable I _ s' h' tk hJ hk)
theorem push_none {h : Heap} : h.get? h.objs.size = none := by
  cases e : h.get? h.objs.size with
  | none => rfl
  | some o => exact absurd (Heap.lt_size e) (Nat.lt_irrefl _)
end
end Mine
end
section
open PySem PySem.W PyProof.Rows PySem.Calls
namespace Mine
section
variable {prog : Program} {w : World} {A : Around} {E : Value → Shared → Prop} {s : Shared} {env : Env}
inductive ForV (prog : Program) (w : World) (A : Around) (env : Env) (x : Str) (px : Pos) (body : List Stmt) (Q : Flow → Shared → Prop) (xv : Value) (s₁ : Shared) : Prop
  | mk  (av ad : Addr) (kvs : List (Str × Value)) (ep : Nat) (J : Addr → Nat → Shared → Prop) (h1 : xv = .ref av) (h2 : s₁.heap.IsValuesView av ad) (h3 : s₁.heap.DictAt (strKind prog w) ad kvs ep) (h4 : A.handled = none) (h5 : (∀ I h', s₁.heap.get? I = none → Keep s₁.heap h' → J I 0 { s₁ with heap := h' })) (h6 : (∀ I i s h' tk, J I i s → KeepBut [I] s.heap h' → J I i { s with heap := h', toks := tk })) (h7 : (∀ I i s, J I i s → s.heap.DictAt (strKind prog w) ad kvs ep)) (h8 : (∀ I i k v s, kvs[i]? = some (k, v) → J I i s → (∃ o, s.heap.get? I = some o) → wpAny (model prog w) A (assign (.Name x px) env v) (fun _ s₂ => wpAny (model prog w) A (execs body env) (fun f s' => match f with
        | .ret v => Q (.ret v) s'
        | .brk => Q .next s'
        | _ => Stop (J I (i + 1) s' ∧ ∀ o, s.heap.get? I = some o → s'.heap.get? I = some o)) (fun _ _ => False) s₂) (fun _ _ => False) s)) (h9 : (∀ I s, J I kvs.length s → Q .next s)) : ForV prog w A env x px body Q xv s₁
theorem For_V {x : Str} {px pos : Pos} {iter : Expr} {body : List Stmt} {Q : Flow → Shared → Prop}
    (h : wpAny (model prog w) A (eval iter env) (fun xv s₁ => Stop (ForV prog w A env x px body Q xv s₁)) E s)
    (hs : ∀ x, foldedSetIterable iter env x = pure x := by intro _; rfl) :
    wpAny (model prog w) A (exec (.For (.Name x px) iter body [] pos) env) Q E s := by
  refine wpAny_For (wpAny_mono h (fun xv s₁ h₁ => ?_) fun _ _ e => e) hs
  obtain ⟨av, ax, kvs, ep, J, rfl, hv, hl, hh, start, stable, list, turn, done⟩ := h₁.of
  have hlt : ax < s₁.heap.objs.size := by obtain ⟨_, _, e, _⟩ := hl; exact Heap.lt_size e
  refine wpAny_pyIter_values hv hl ?_
  have hne := Nat.ne_of_lt hlt
  generalize hI : s₁.heap.objs.size = I at hne
  have hfree : s₁.heap.get? I = none := by
    cases e : s₁.heap.get? I with
    | none => rfl
    | some o => exact absurd (Heap.lt_size e) (by rw [hI]; exact Nat.lt_irrefl _)
  have hit : (s₁.heap.push { cls := .type "dict_valueiterator", data := .fields #[.ref ax, .int 0 0, .int kvs.length 0, .int ep 0] }).IsValIter I ax 0 kvs.length ep := by rw [← hI]; exact ⟨_, Heap.get?_push_size _ rfl, rfl, rfl⟩
  have W := Walks.dictValues (knd := strKind prog w) hh I ax hne kvs ep
  refine codeAny_forLoop (fun k s' => ∃ i, J I i s' ∧ s'.heap.IsValIter I ax i kvs.length ep ∧ i ≤ kvs.length ∧ k = kvs.length + 1 - i) ?_ (kvs.length + 1)
    ⟨0, start I _ hfree (fun b o e => Heap.get?_push_of_some _ e), hit, Nat.zero_le _, rfl⟩
  rintro k s' ⟨i, hJ, hIt, hi, rfl⟩
  have st : s'.heap.IsValIter I ax i kvs.length ep ∧ s'.heap.DictAt (strKind prog w) ax kvs ep := ⟨hIt, list _ _ _ hJ⟩
  by_cases hlt : i < kvs.length
  · refine W.item i _ _ _ hlt st fun v h' tk hP st' hk => ?_
    obtain ⟨k, hv⟩ := hP
    obtain ⟨oI, eI, rI⟩ := st'.1
    refine wpAny_mono (turn I i k v _ hv (stable I i s' h' tk hJ hk) ⟨oI, eI⟩) (fun _ s₂ h₂ => wpAny_mono h₂ (fun f s₃ h₃ => ?_) fun _ _ e => e.elim) fun _ _ e => e.elim
    have fin : (J I (i + 1) s₃ ∧ ∀ o, h'.get? I = some o → s₃.heap.get? I = some o) → ∃ m, m < kvs.length + 1 - i ∧ ∃ i, J I i s₃ ∧ s₃.heap.IsValIter I ax i kvs.length ep ∧ i ≤ kvs.length ∧ m = kvs.length + 1 - i :=
      fun ⟨hJ', hk'⟩ => ⟨kvs.length + 1 - (i + 1), ar_step hlt, i + 1, hJ', ⟨oI, hk' oI eI, rI⟩, hlt, rfl⟩
    cases f with
    | ret v => exact h₃
    | brk => exact h₃
    | next => exact fin h₃.of
    | cont => exact fin h₃.of
  · obtain rfl : i = kvs.length := ar_end hi hlt
    refine W.done _ _ _ st fun h' tk hk => wpAny_execs_nil ?_
    exact done I _ (stable I _ s' h' tk hJ hk)
end
end Mine
end
section
open PySem PySem.W PyProof.Rows PySem.Calls
namespace Mine
section
theorem wp_peek1G {α : Type} {K : Frag} {M : Model} {A : Around} {E : Value → Shared → Prop} {Q : α → Shared → Prop} {s : Shared} {o : Obj} {r : Addr → α} (X : K.In s.heap) (q : Q (r s.heap.objs.size) { s with heap := s.heap.push o }) :
    ∀ (t : Sem α) (g : Addr → Option α), peek1 K ⟨M.prog, M.w.params⟩ t = some (o, g) → (∀ D, g D = some (r D)) → wpAny M A t Q E s := by
  intro t
  induction t with
  | rule _ k ih => intro g e hg Γ p hΓ; exact ih () g e hg Γ p hΓ
  | point _ k ih => intro g e hg Γ p hΓ; exact ih () g e hg Γ p hΓ
  | ask k ih => intro g e hg Γ p hΓ; exact ih _ g e hg Γ p hΓ
  | load a _ k ih =>
    intro g e hg Γ p hΓ
    simp only [peek1] at e
    split at e
    · rename_i ob ho; exact ⟨ob, X _ _ ho, ih ob g e hg Γ p hΓ⟩
    · cases e
  | alloc ob k _ =>
    intro g e hg
    have e : some (ob, fun D => peek K ⟨M.prog, M.w.params⟩ (k D)) = some (o, g) := e
    obtain ⟨e1, e2⟩ := Prod.mk.inj (Option.some.inj e)
    subst e1
    subst e2
    have X' : K.In (s.heap.push ob) := X.keeps fun b x hb => Heap.get?_push_of_some _ hb
    show wpAny M A (alloc ob >>= k) Q E s
    refine wpAny_bind (wpAny_alloc ?_)
    exact (Looks.of_peek (M := M) (h := s.heap.push ob) X' (hg s.heap.objs.size)).here (s := { s with heap := s.heap.push ob }) q
  | _ => intro g e; cases e
variable {prog : Program} {w : World} {A A₀ : Around} {s : Shared} {K : Frag} {L : Addr} {h₀ base : Heap} {m mg mb : Str → Option Value} {news : List (Addr × Obj)} {p : Program} {loose : List Str} {mean : ExcName → Option Value}
theorem enterR {env : Env} {outer : List Env} {R : Result → Shared → Prop} {name qual : Str} {params : Arguments} {body : List Stmt} {scope : Scope} {dV kV doc pm cdv ct oc : Value} {an od : Option Addr} {osl : Array (Option Value)} {f : Addr} {args : Args} {vs : List Value} {g₁ : Addr → Option (List (Str × Value))} {binds : Addr → List (Str × Value)}
    (h : ∀ D g L' h₁, (∀ p ∈ news, p.1 < D) → Fr h₀ L g m → Fr g L' h₁ (fun y => (binds D).reverse.lookup y) → News g L' h₁ ((D, ({ cls := .type "tuple", data := .seq vs.toArray } : Obj)) :: news) → Below A base (env :: outer) g → K.In g → Top p loose mean mg mb g → GSub s.heap g (news.map (·.1)) →
      wpAny (model prog w) (A.deeper (envOf qual scope L' f cdv)) (execs body (envOf qual scope L' f cdv))
        (fun fl s' => LeaveK h₀ L m g R (match fl with | .ret v => v | _ => .none) s')
        (fun e s' => wpAny (model prog w) (A.deeper (envOf qual scope L' f cdv)) (leaving (envOf qual scope L' f cdv) e) (fun _ s'' => R (.error e) s'') (fun e' s'' => R (.error e') s'') s')
        { s with heap := h₁, toks := s.toks + (binds D).length })
    (hA : A.frames = some (env :: outer) := by exact rfl) (F : Fr h₀ L s.heap m := by assumption) (X₀ : K.In h₀ := by assumption) (B : Below A₀ base outer h₀ := by k_asm) (N : News h₀ L s.heap news := by k_asm) (T : Top p loose mean mg mb h₀ := by k_asm) (hf : env.frame = some L := by k_asm) (hke : env.scope.kind = .function := by k_asm)
    (ho : K.lookup f = some ⟨oc, od, .func (fnOf name qual params body scope dV kV doc pm an cdv ct), osl⟩ := by k_is) (hcd : codeIn K cdv qual = true := by k_is) (hroom : A.depth < recursionLimit := by k_room)
    (hp : peek1 K ⟨prog, w.params⟩ (bindArgs (fnOf name qual params body scope dV kV doc pm an cdv ct) args) = some (({ cls := .type "tuple", data := .seq vs.toArray } : Obj), g₁) := by exact (rfl : _ = some (({ cls := .type "tuple", data := .seq ([] : List Value).toArray } : Obj), _))) (hg : ∀ D, g₁ D = some (binds D) := by exact fun _ => rfl) (hcell : ∀ x ∈ scope.names, x.2 ≠ .cell := by decide) (hloc : ∀ D, ∀ y ∈ binds D, scope.names.lookup y.1 = some .local := by exact fun _ => locs rfl)
    (hco : scope.isCoroutine = false := by exact rfl) (hgen : scope.isGenerator = false := by exact rfl) (hk : scope.kind = .function := by exact rfl) : codeAny (model prog w) A (.call (.ref f) args) R s := by
  refine codeAny_call_function (fd := fnOf name qual params body scope dV kV doc pm an cdv ct) (body := body) hroom ((X₀.keeps F.keep) _ _ ho) rfl hco hgen rfl (codeRec_of (X₀.keeps F.keep) hcd) ?_
  refine wp_peek1G (o := ({ cls := .type "tuple", data := .seq vs.toArray } : Obj)) (X₀.keeps F.keep) (r := binds) ?_ _ g₁ hp hg
  have l : ∀ p ∈ news, p.1 < s.heap.objs.size := fun p hp => Heap.lt_size (N p hp).1
  have F' := F.push ({ cls := .type "tuple", data := .seq vs.toArray } : Obj)
  have N' := News.push F N ({ cls := .type "tuple", data := .seq vs.toArray } : Obj) rfl
  generalize hs2 : s.heap.push ({ cls := .type "tuple", data := .seq vs.toArray } : Obj) = h2 at F' N'
  have up : ∀ b o, s.heap.get? b = some o → h2.get? b = some o := fun b o e => by rw [← hs2]; exact Heap.get?_push_of_some _ e
  generalize hD : s.heap.objs.size = D at N' l
  obtain ⟨FG, BG, st, lv⟩ := groundX (s := { s with heap := h2 }) (R := R) B F' N' hA hf hke
  refine wpAny_newFunctionEnv hcell (hloc D) (fun h₁ hns hsb => ⟨(T.nolimit.keeps F'.keep).fresh _ hsb, codeAny_func ?_⟩) hk
  have hk₁ : ∀ b o, h2.get? b = some o → h₁.get? b = some o := fun b o e => hsb.extBut b o (Nat.ne_of_lt (Heap.lt_size e)) (Heap.get?_push_of_some _ e)
  exact wpAny_mono (h D _ h2.objs.size h₁ l FG ⟨hns, fun b o e => hk₁ b o (of_hideAll _ e), Nat.le_of_eq (hideAll_size _ _)⟩
    (fun p hp => ⟨hk₁ _ _ (N' p hp).1, Nat.ne_of_lt (Heap.lt_size (N' p hp).1), hideAll_none _ (List.mem_map_of_mem hp)⟩) BG (X₀.keeps st) (T.keeps st) (fun b o e n => hideAll_get _ (up b o e) (fun q => by
      rcases List.mem_cons.mp q with q | q
      · have := Heap.lt_size e; rw [hD, q] at this; exact Nat.lt_irrefl _ this
      · exact n q))) (fun fl s' hl => lv _ _ hl) fun _ _ y => y
end
end Mine
end
section
open PySem PySem.W PyProof.Rows PySem.Calls
namespace Mine
theorem fillK : (PySem.Challenge.rw_ae0022_01, hd.heap_1) = (PySem.Challenge.rw_ae0022_01, hd.heap_1) := by k_fill; rfl
structure Here (w : World) (p : Program) (loose : List Str) (mean : ExcName → Option Value) (mg mb : Str → Option Value)
    (A : Around) (L : Addr) (h₀ : Heap) (dd uu : Nat) : Prop where
  ex : ∃ (A₀ : Around) (base : Heap) (outer : List Env) (env : Env), Below A₀ base outer h₀ ∧ A.frames = some (env :: outer) ∧ env.frame = some L ∧ env.scope.kind = .function
  hh : A.handled = none
  depth : A.depth + dd < recursionLimit
  units : A.units + uu < cLine
  X : (hd.heap_1 w.params).In h₀
  T : Top p loose mean mg mb h₀
section
variable {w : World} {p : Program} {loose : List Str} {mean : ExcName → Option Value} {mg mb : Str → Option Value} {A : Around} {L : Addr} {h₀ : Heap} {dd uu : Nat}
theorem Here.openC {C : Prop} (H : Here w p loose mean mg mb A L h₀ dd uu) (k : ∀ A₀ base outer env, Below A₀ base outer h₀ → A.frames = some (env :: outer) → env.frame = some L → env.scope.kind = .function → A.handled = none → A.depth + dd < recursionLimit → A.units + uu < cLine → (hd.heap_1 w.params).In h₀ → Top p loose mean mg mb h₀ → C) : C := by
  obtain ⟨⟨A₀, base, outer, env, B, hA, hf, hke⟩, hh, hdp, hun, X, T⟩ := H
  exact k A₀ base outer env B hA hf hke hh hdp hun X T
@[elab_as_elim] theorem Here.openA {C : Around → Prop} (H : Here w p loose mean mg mb A L h₀ dd uu) (k : ∀ A₀ base outer env dp gd un, Below A₀ base outer h₀ → env.frame = some L → env.scope.kind = .function → dp + dd < recursionLimit → un + uu < cLine → (hd.heap_1 w.params).In h₀ → Top p loose mean mg mb h₀ → C ⟨none, dp, some (env :: outer), gd, un⟩) : C A := by
  obtain ⟨⟨A₀, base, outer, env, B, hA, hf, hke⟩, hh, hdp, hun, X, T⟩ := H
  obtain ⟨hd', dp, fr, gd, un⟩ := A
  dsimp only at hA hh hdp hun; subst hA; subst hh
  exact k A₀ base outer env dp gd un B hf hke hdp hun X T
end
theorem code_rr (w : World) : codeHdIn (hd.heap_1 w.params) 744 742 = true := by kernel_rfl
theorem code_hl (w : World) : codeHdIn (hd.heap_1 w.params) 908 906 = true := by kernel_rfl
end Mine
end
section
open PySem PySem.W PyProof.Rows PySem.Calls
namespace Mine
theorem lk_none_call : typeLookup (.type "NoneType") "__call__" = pure none := by rw [typeLookup_type, builtinLookup_eq_fast]; kernel_rfl
theorem ty_none : typeOf Value.none = pure (.type "NoneType") := by kernel_rfl
theorem tyName_none : typeNameOf Value.none = pure "NoneType" := by kernel_rfl
section
variable {prog : Program} {w : World} {A : Around} {E : Value → Shared → Prop} {s : Shared}
theorem call_none {vs : List Value} {Q : Value → Shared → Prop} (hA : A.handled = none) (h : ∀ h' tk e, Heap.NewExc s.heap h' e "TypeError" → E (.ref e) { s with heap := h', toks := tk }) :
    wpAny (model prog w) A (call .none vs []) Q E s := by
  refine wpAny_call (codeAny_of_tree ?_)
  show wpAny _ _ (specialOf Value.none "__call__" >>= _) _ _ _
  refine wpAny_bind (wpAny_specialOf_val ty_none lk_none_call ?_)
  show wpAny _ _ (callAny.notCallable Value.none) _ _ _
  unfold callAny.notCallable
  refine wpAny_bind (wpAny_rule ?_)
  dsimp only
  simp only [pure_bind, tyName_none]
  exact_raiseError plainExc_TypeError hA h
theorem callWith_none {pos : Pos} {args : List (Bool × Sem Value)} {Q : Value → Shared → Prop} (hA : A.handled = none) (hplain : args.any (·.1) = false)
    (h : wpAny (model prog w) A (spliced args) (fun _ s₁ => ∀ h' tk e, Heap.NewExc s₁.heap h' e "TypeError" → E (.ref e) { s₁ with heap := h', toks := tk }) E s) (hne : ∃ t r, args = (false, t) :: r) :
    wpAny (model prog w) A (callWith pos .none [] args []) Q E s := by
  obtain ⟨t, r, rfl⟩ := hne
  unfold callWith
  refine wpAny_bind (wpAny_holding (evalArgs_plain (wpAny_mono h (fun vs s₁ h₁ => wpAny_bind (wpAny_standAt ?_)) fun _ _ x => x)))
  simp only [hplain, List.any_nil, Bool.or_false]
  refine wpAny_bind (wpAny_pure ?_)
  exact wpAny_bind (call_none hA h₁)
end
end Mine
end
section
open PySem PySem.W PyProof.Rows PySem.Calls
namespace Mine
section
variable {prog : Program} {w : World} {A A₀ : Around} {s : Shared} {K : Frag} {L : Addr} {h₀ base : Heap} {m mg mb : Str → Option Value} {news : List (Addr × Obj)} {p : Program} {loose : List Str} {mean : ExcName → Option Value}
structure HereT (w : World) (p : Program) (loose : List Str) (mean : ExcName → Option Value) (mg mb : Str → Option Value) (K : Frag)
    (A : Around) (l : List Env) (frs : List (Addr × Obj)) (h₀ h : Heap) (dd uu : Nat) : Prop where
  fr : A.frames = some l
  Fs : TI.Frs l frs
  at_ : ∀ p ∈ frs, h.get? p.1 = some p.2
  off : ∀ p ∈ frs, h₀.get? p.1 = none
  kp : Keep h₀ h
  hh : A.handled = none
  depth : A.depth + dd < recursionLimit
  units : A.units + uu < cLine
  X : K.In h₀
  T : Top p loose mean mg mb h₀
theorem sub_hide {h h₀ : Heap} {as : List Addr} (k : Keep h₀ h) (n : ∀ a ∈ as, h₀.get? a = none) : Keep h₀ (hideAll h as) := fun b o e => hideAll_get _ (k b o e) fun q => by rw [n b q] at e; cases e
theorem enterT {l : List Env} {frs : List (Addr × Obj)} {R : Result → Shared → Prop} {name qual : Str} {params : Arguments} {body : List Stmt} {scope : Scope} {dV kV doc pm cdv ct oc : Value} {an od : Option Addr} {osl : Array (Option Value)} {f : Addr} {args : Args} {binds : List (Str × Value)} {dd uu : Nat}
    (H : HereT w p loose mean mg mb K A l frs h₀ s.heap dd uu)
    (ho : K.lookup f = some ⟨oc, od, .func (fnOf name qual params body scope dV kV doc pm an cdv ct), osl⟩) (hcd : codeIn K cdv qual = true) (hroom : A.depth < recursionLimit)
    (hbind : BindsTo s (fnOf name qual params body scope dV kV doc pm an cdv ct) args binds) (hloc : ∀ y ∈ binds, scope.names.lookup y.1 = some .local)
    (h : ∀ g L' h₁, K.In g → Top p loose mean mg mb g → GSub s.heap g (frs.map (·.1)) → Keep h₀ g → Fr g L' h₁ (fun y => binds.reverse.lookup y) → News g L' h₁ frs → @Eq Nat L' s.heap.objs.size →
      wpAny (model prog w) (A.deeper (envOf qual scope L' f cdv)) (execs body (envOf qual scope L' f cdv))
        (fun fl s' => R (.ok (.ret (match fl with | .ret v => v | _ => .none))) s')
        (fun e s' => wpAny (model prog w) (A.deeper (envOf qual scope L' f cdv)) (leaving (envOf qual scope L' f cdv) e) (fun _ s'' => R (.error e) s'') (fun e' s'' => R (.error e') s'') s')
        { s with heap := h₁, toks := s.toks + binds.length })
    (hco : scope.isCoroutine = false) (hgen : scope.isGenerator = false) (hk : scope.kind = .function) (hcell : ∀ x ∈ scope.names, x.2 ≠ .cell) : codeAny (model prog w) A (.call (.ref f) args) R s := by
  have X := H.X.keeps H.kp
  have n0 : ∀ a ∈ frs.map (·.1), h₀.get? a = none := fun a ha => by obtain ⟨q, hq, rfl⟩ := List.mem_map.mp ha; exact H.off q hq
  have st := sub_hide H.kp n0
  refine codeAny_call_def (fd := fnOf name qual params body scope dV kV doc pm an cdv ct) (body := body) (binds := binds) hroom (X _ _ ho) rfl (H.T.nolimit.keeps H.kp) (codeRec_of X hcd) rfl hbind hcell hloc (fun h₁ hns hk₁ => ?_) hco hgen hk
  exact h (hideAll s.heap (frs.map (fun q : Addr × Obj => q.1))) _ h₁ (H.X.keeps st) (H.T.keeps st) (fun b o e n => hideAll_get _ e n) st ⟨hns, fun b o e => hk₁ b o (of_hideAll _ e), Nat.le_of_eq (hideAll_size _ _)⟩
    (fun q hq => ⟨hk₁ _ _ (H.at_ q hq), Nat.ne_of_lt (Heap.lt_size (H.at_ q hq)), hideAll_none _ (List.mem_map_of_mem hq)⟩) rfl
theorem ns_slots {h h' : Heap} {L : Addr} {m : Str → Option Value} {o : Obj} {sl : Array (Option Value)} (hn : h.Ns L m) (e : h.get? L = some o) (e' : h'.get? L = some { o with slots := sl }) : h'.Ns L m := by
  obtain ⟨o1, es, ep, x, y, z⟩ := hn
  rw [e] at x; cases x
  exact ⟨_, es, ep, e', y, z⟩
theorem Fr.slots {h h' : Heap} {as : List Addr} {o : Obj} {sl : Array (Option Value)} (F : Fr h₀ L h m) (e : h.get? L = some o) (e' : h'.get? L = some { o with slots := sl }) (k : KeepBut as h h') (h0 : ∀ a ∈ as, h₀.get? a = none) : Fr h₀ L h' m :=
  ⟨ns_slots F.ns e e', fun b o e => k b o (fun q => by rw [h0 b q] at e; cases e) (F.keep b o e), F.above⟩
theorem Ns.obj {h : Heap} {L : Addr} {m : Str → Option Value} (hn : h.Ns L m) : ∃ o es ep, h.get? L = some o ∧ o.data = .dict es ep := by
  obtain ⟨o, es, ep, x, y, _⟩ := hn
  exact ⟨o, es, ep, x, y⟩
end
section
variable {prog : Program} {w : World} {A₀ : Around} {E : Value → Shared → Prop} {s' : Shared} {h₀ : Heap} {L a e : Addr} {m mg mb : Str → Option Value} {news : List (Addr × Obj)} {name : Str} {scope : Scope} {cd fl : Value} {Q : Flow → Shared → Prop} {X T' : String} {K : Frag} {p : Program} {loose : List Str}
  {x : Str} {b₀ : Stmt} {suite : List Stmt} {rest : List ExceptHandler} {pos np : Pos}
theorem clause_hitK (H : TT.HeldNA h₀ L s'.heap m e X news fl) (XK : K.In h₀) (T : TopRead p loose mg mb h₀) (ex : nsIn K mainGlobals x = some none) (hv : bootBuiltins x = some (.type T')) (hn : x ≠ "__name__")
    (hexc : isSubtype (.type T') (.type "BaseException") = pure true) (hnt : isSubtype (.type ((Manifest.find? T').elim "type" fun y => y.metatype)) (.type "tuple") = pure false) (hsub : isSubtype (.type X) (.type T') = pure true)
    (k : ∀ h', Fr h₀ L h' m → News h₀ L h' news → wpAny (model prog w) ((A₀.deeper (envOf name scope L a cd)).mark (some (.ref e))) (execs (b₀ :: suite) (envOf name scope L a cd)) Q E { s' with heap := h' })
    (hk : scope.kind = .function := by rfl) (hx : (envOf name scope L a cd).kindOf x = some .globalImplicit := by rfl) (hd : (x == ("__debug__" : Str)) = false := by decide)
    (hE : PassesOwnAt (model prog w) ((A₀.deeper (envOf name scope L a cd)).mark (some (.ref e))) (A₀.deeper (envOf name scope L a cd)) (envOf name scope L a cd) E := by passes_own) :
    wpAny (model prog w) (A₀.deeper (envOf name scope L a cd)) (handleBy (.ref e) (envOf name scope L a cd) (.ExceptHandler (some (.Name x np)) none (b₀ :: suite) pos :: rest)) Q E s' := by
  refine wpAny_handleBy_builtin (X := X) (T := T') (b := true) hexc hnt hsub (wpAny_passesOwnAt hE (nameX_B (cl := []) H.held.fr XK T ex hv hn ⟨rfl, H.isA, ?_⟩ hk hx hd))
  rw [if_pos rfl]
  exact H.lands fun h' F' N' => wpAny_passesOwnAt hE (k h' F' N')
end
section
variable {h₀ h h' : Heap} {L : Addr} {m : Str → Option Value} {frs qs : List (Addr × Obj)}
theorem news_up (N : News h₀ L h frs) (SU : TI.SameUp frs qs) (e : ∀ q ∈ qs, h'.get? q.1 = some q.2) : News h₀ L h' qs := fun q hq => by
  obtain ⟨x, hx, ex⟩ := SU.fwd q hq
  have := (N x hx).2
  rw [ex]
  exact ⟨ex ▸ e q hq, this⟩
theorem fr_none (F : Fr h₀ L h m) : h₀.get? L = none := by
  cases e : h₀.get? L with
  | none => rfl
  | some o => exact absurd (Nat.lt_of_lt_of_le (Heap.lt_size e) F.above) (Nat.lt_irrefl _)
theorem HereT.below {w : World} {p : Program} {loose : List Str} {mean : ExcName → Option Value} {mg mb : Str → Option Value} {K : Frag} {A : Around} {l : List Env} {g : Heap} {dd uu dd' uu' : Nat} {env : Env} {oL : Obj} {s₀ : Heap}
    (H : HereT w p loose mean mg mb K A l frs h₀ s₀ dd uu) (F : Fr g L h m) (N : News g L h frs) (k : Keep h₀ g) (hf : env.frame = some L) (hk : env.scope.kind ≠ .module) (eL : h.get? L = some oL) (hL : ∃ es ep, oL.data = .dict es ep)
    (hd : (A.deeper env).depth + dd' < recursionLimit) (hu : (A.deeper env).units + uu' < cLine) (hh : (A.deeper env).handled = none) : HereT w p loose mean mg mb K (A.deeper env) (env :: l) ((L, oL) :: frs) h₀ h dd' uu' := by
  refine ⟨Around.frames_deeper H.fr, ⟨hk, hf, hL, H.Fs⟩, fun q hq => ?_, fun q hq => ?_, fun b o e => F.keep b o (k b o e), hh, hd, hu, H.X, H.T⟩
  · refine memc hq ?_ fun hq => ?_
    · exact eL
    · exact (N q hq).1
  · refine memc hq ?_ fun hq => ?_
    · exact none_of_keep k (fr_none F)
    · exact none_of_keep k (N q hq).2.2
theorem back_T {oL : Obj} {frs' : List (Addr × Obj)} (F : Fr h₀ L h m) (N : News h₀ L h frs) (eL : h.get? L = some oL) (SU : TI.SameUp ((L, oL) :: frs) frs') (e : ∀ q ∈ frs', h'.get? q.1 = some q.2) (kb : KeepBut (((L, oL) :: frs).map (·.1)) h h') :
    ∃ qs, TI.SameUp frs qs ∧ Fr h₀ L h' m ∧ News h₀ L h' qs := by
  cases frs' with
  | nil => exact SU.elim
  | cons q qs =>
    obtain ⟨x1, ⟨sl, x2⟩, x3⟩ := SU
    have eq := e q (.head _)
    rw [x1, x2] at eq
    refine ⟨qs, x3, Fr.slots F eL eq kb fun a ha => ?_, news_up N x3 fun q hq => e q (.tail _ hq)⟩
    refine memc ha ?_ fun ha => ?_
    · exact (fr_none F)
    · obtain ⟨z, hz, rfl⟩ := List.mem_map.mp ha
      exact (N z hz).2.2
end
end Mine
end
section
open PySem PySem.W PyProof.Rows PySem.Calls
namespace Mine
inductive RowT (g : Heap) (L' L : Addr) (x : Str) (m0 : Str → Option Value) (oL : Obj) (led : List (Addr × Obj)) (os : OsState) (I : Addr) (_i : Nat) (t : Shared) : Prop
  | mk  (ov : Option Value) (sl : Array (Option Value)) (h1 : @Ne Nat I L') (h2 : g.get? I = none) (h3 : @Ne Nat I L) (h4 : (∀ p ∈ led, @Ne Nat p.1 I)) (h5 : Fr g L' t.heap (fun z => if z = x then ov else m0 z)) (h6 : News g L' t.heap ((L, { oL with slots := sl }) :: led)) (h7 : AllBare t.gens) (h8 : t.os = os) : RowT g L' L x m0 oL led os I _i t
section
variable {g h : Heap} {L' L : Addr} {x : Str} {m0 : Str → Option Value} {oL : Obj} {led : List (Addr × Obj)} {os : OsState} {I : Addr} {i tk : Nat} {t : Shared}
theorem rt_start (F : Fr g L' t.heap m0) (N : News g L' t.heap ((L, oL) :: led)) (hG : AllBare t.gens) (hos : t.os = os) (hm : m0 x = none) (hI : t.heap.get? I = none) (k : Keep t.heap h) : RowT g L' L x m0 oL led os I 0 { t with heap := h } := by
  have hm' : m0 = fun z => if z = x then none else m0 z := funext fun z => by
    by_cases e : z = x
    · rw [if_pos e, e]; exact hm
    · rw [if_neg e]
  have off := fresh_off N hI
  refine ⟨none, oL.slots, Fr.neOf F hI, none_of_keep F.keep hI, Ne.symm off.1, fun p hp => off1_all off.2 p hp, ?_, N.grown k, hG, hos⟩
  rw [← hm']; exact F.keeps k
theorem rt_stable (J : RowT g L' L x m0 oL led os I i t) (k : KeepBut [I] t.heap h) : RowT g L' L x m0 oL led os I i { t with heap := h, toks := tk } := by
  obtain ⟨ov, sl, i1, i2, i3, i4, F, N, hG, hos⟩ := J
  refine ⟨ov, sl, i1, i2, i3, i4, Fr.but F k (notin1 (Ne.symm i1)) (fun a ha => by rw [List.mem_singleton.mp ha]; exact i2), News.but N k ?_, hG, hos⟩
  intro p hp
  refine memc hp ?_ fun hp => ?_
  · exact notin1 (Ne.symm i3)
  · exact notin1 (i4 p hp)
theorem rt_end {ov v : Option Value} {sl : Array (Option Value)} {oI : Obj} {h9 : Heap} (i1 : @Ne Nat I L') (i2 : g.get? I = none) (i3 : @Ne Nat I L) (i4 : ∀ p ∈ led, @Ne Nat p.1 I) (eI : h9.get? I = some oI)
    (F : Fr g L' t.heap (fun y => if y = x then v else if y = x then ov else m0 y)) (N : News g L' t.heap ((L, { oL with slots := sl }) :: (I, oI) :: led)) (hG : AllBare t.gens) (hos : t.os = os) :
    Stop (RowT g L' L x m0 oL led os I i t ∧ ∀ o, h9.get? I = some o → t.heap.get? I = some o) := by
  have e : (fun y => if y = x then v else if y = x then ov else m0 y) = (fun y => if y = x then v else m0 y) := funext fun y => by
    by_cases e : y = x
    · rw [if_pos e, if_pos e]
    · rw [if_neg e, if_neg e, if_neg e]
  refine Stop.mk ⟨⟨v, sl, i1, i2, i3, i4, e ▸ F, newsSub N fun p hp => ?_, hG, hos⟩, fun o q => ?_⟩
  · refine memc hp ?_ fun hp => ?_
    · exact .head _
    · exact .tail _ (.tail _ hp)
  · rw [eI] at q; cases q
    exact (N _ (.tail _ (.head _))).1
theorem back1 {h' : Heap} {m : Str → Option Value} {oD : Obj} {R frs' : List (Addr × Obj)} (F : Fr g L' h m) (N : News g L' h ((L, oL) :: R)) (hR : ∀ p ∈ R, @Ne Nat p.1 L) (eD : h.get? L' = some oD)
    (SU : TI.SameUp [(L', oD), (L, oL)] frs') (e : ∀ q ∈ frs', h'.get? q.1 = some q.2) (kb : KeepBut ([(L', oD), (L, oL)].map (·.1)) h h') : ∃ sl, Fr g L' h' m ∧ News g L' h' ((L, { oL with slots := sl }) :: R) := by
  obtain ⟨qs, SU2, F2, N2⟩ := back_T (frs := [(L, oL)]) F (newsSub N fun p hp => by rw [List.mem_singleton.mp hp]; exact .head _) eD SU e kb
  obtain ⟨sl, rfl⟩ := TLg.one_up SU2
  refine ⟨sl, F2, fun p hp => ?_⟩
  refine memc hp ?_ fun hp => ?_
  · exact N2 _ (.head _)
  · have z := N p (.tail _ hp)
    exact ⟨kb _ _ (notin2 z.2.1 (hR p hp)) z.1, z.2⟩
theorem ne_dict {h : Heap} {a b : Addr} {o o' : Obj} {es : Array DictEntry} {ep : Nat} (x : h.get? a = some o) (y : h.get? b = some o') (hy : o'.data = .dict es ep) (hx : ∀ es ep, o.data ≠ .dict es ep) : @Ne Nat a b := fun e => by
  have e' : a = b := e
  subst e'
  rw [x] at y; cases y
  exact hx _ _ hy
theorem ground_off {h₀ g h : Heap} {L L' : Addr} {m m' : Str → Option Value} {K : Frag} {p : Program} {loose : List Str} {mean : ExcName → Option Value} {mg mb : Str → Option Value} {news : List (Addr × Obj)}
    (X : K.In h₀) (T : Top p loose mean mg mb h₀) (FG : Fr h₀ L g m) (F : Fr g L' h m') (N : News g L' h news) :
    ∃ g2 oL es ep, g.get? L = some oL ∧ oL.data = .dict es ep ∧ K.In g2 ∧ Top p loose mean mg mb g2 ∧ Fr g2 L' h m' ∧ News g2 L' h ((L, oL) :: news) ∧ Keep h₀ g2 ∧ (∀ b o, @Ne Nat b L → g.get? b = some o → g2.get? b = some o) ∧ Keep g2 g ∧ @Ne Nat L L' := by
  obtain ⟨oL, es, ep, eL, dL⟩ := Ns.obj FG.ns
  have st : Keep h₀ (hideAll g [L]) := sub_hide FG.keep fun a ha => by rw [List.mem_singleton.mp ha]; exact fr_none FG
  have nL : @Ne Nat L L' := fun e => by
    have e' : L = L' := e
    have := fr_none F
    rw [← e', eL] at this; cases this
  refine ⟨hideAll g [L], oL, es, ep, eL, dL, X.keeps st, T.keeps st, ⟨F.ns, fun b o e => F.keep b o (of_hideAll _ e), by rw [hideAll_size]; exact F.above⟩, ?_, st, fun b o n e => hideAll_get _ e (notin1 n), fun b o e => of_hideAll _ e, nL⟩
  intro q hq
  refine memc hq ?_ fun hq => ?_
  · exact ⟨F.keep _ _ eL, nL, hideAll_none _ (.head _)⟩
  · have z := N q hq
    refine ⟨z.1, z.2.1, ?_⟩
    cases e : (hideAll g [L]).get? q.1 with
    | none => rfl
    | some o => have := of_hideAll _ e; rw [z.2.2] at this; cases this
end
section
variable {prog : Program} {w : World} {A A₀ : Around} {s : Shared} {K : Frag} {L : Addr} {h₀ base : Heap} {m mg mb : Str → Option Value} {news : List (Addr × Obj)} {p : Program} {loose : List Str} {mean : ExcName → Option Value}
theorem enterP {env : Env} {outer : List Env} {R : Result → Shared → Prop} {name qual : Str} {params : Arguments} {body : List Stmt} {scope : Scope} {dV kV doc pm cdv ct oc : Value} {an od : Option Addr} {osl : Array (Option Value)} {f : Addr} {args : Args} {vs : List Value} {g₁ : Addr → Option (List (Str × Value))} {binds : Addr → List (Str × Value)}
    (B : Below A₀ base outer h₀) (F : Fr h₀ L s.heap m) (X₀ : K.In h₀) (N : News h₀ L s.heap news) (T : Top p loose mean mg mb h₀) (hA : A.frames = some (env :: outer)) (hf : env.frame = some L) (hke : env.scope.kind = .function)
    (ho : K.lookup f = some ⟨oc, od, .func (fnOf name qual params body scope dV kV doc pm an cdv ct), osl⟩) (hcd : codeIn K cdv qual = true) (hroom : A.depth < recursionLimit)
    (hp : peek1 K ⟨prog, w.params⟩ (bindArgs (fnOf name qual params body scope dV kV doc pm an cdv ct) args) = some (({ cls := .type "tuple", data := .seq vs.toArray } : Obj), g₁))
    (hg : ∀ D, g₁ D = some (binds D)) (hloc : ∀ D, ∀ y ∈ binds D, scope.names.lookup y.1 = some .local)
    (h : ∀ D g L' h₁, (∀ p ∈ news, p.1 < D) → Fr h₀ L g m → Fr g L' h₁ (fun y => (binds D).reverse.lookup y) → News g L' h₁ ((D, ({ cls := .type "tuple", data := .seq vs.toArray } : Obj)) :: news) → Below A base (env :: outer) g → K.In g → Top p loose mean mg mb g → GSub s.heap g (news.map (·.1)) →
      wpAny (model prog w) (A.deeper (envOf qual scope L' f cdv)) (execs body (envOf qual scope L' f cdv))
        (fun fl s' => R (.ok (.ret (match fl with | .ret v => v | _ => .none))) s')
        (fun e s' => wpAny (model prog w) (A.deeper (envOf qual scope L' f cdv)) (leaving (envOf qual scope L' f cdv) e) (fun _ s'' => R (.error e) s'') (fun e' s'' => R (.error e') s'') s')
        { s with heap := h₁, toks := s.toks + (binds D).length })
    (hco : scope.isCoroutine = false) (hgen : scope.isGenerator = false) (hk : scope.kind = .function)
    (hcell : ∀ x ∈ scope.names, x.2 ≠ .cell) : codeAny (model prog w) A (.call (.ref f) args) R s := by
  refine codeAny_call_function (fd := fnOf name qual params body scope dV kV doc pm an cdv ct) (body := body) hroom ((X₀.keeps F.keep) _ _ ho) rfl hco hgen rfl (codeRec_of (X₀.keeps F.keep) hcd) ?_
  refine wp_peek1G (o := ({ cls := .type "tuple", data := .seq vs.toArray } : Obj)) (X₀.keeps F.keep) (r := binds) ?_ _ g₁ hp hg
  have l : ∀ p ∈ news, p.1 < s.heap.objs.size := fun p hp => Heap.lt_size (N p hp).1
  have F' := F.push ({ cls := .type "tuple", data := .seq vs.toArray } : Obj)
  have N' := News.push F N ({ cls := .type "tuple", data := .seq vs.toArray } : Obj) rfl
  generalize hs2 : s.heap.push ({ cls := .type "tuple", data := .seq vs.toArray } : Obj) = h2 at F' N'
  have up : ∀ b o, s.heap.get? b = some o → h2.get? b = some o := fun b o e => by rw [← hs2]; exact Heap.get?_push_of_some _ e
  generalize hD : s.heap.objs.size = D at N' l
  obtain ⟨FG, BG, st, _⟩ := groundX (s := { s with heap := h2 }) (R := R) B F' N' hA hf hke
  refine wpAny_newFunctionEnv hcell (hloc D) (fun h₁ hns hsb => ⟨(T.nolimit.keeps F'.keep).fresh _ hsb, codeAny_func ?_⟩) hk
  have hk₁ : ∀ b o, h2.get? b = some o → h₁.get? b = some o := fun b o e => hsb.extBut b o (Nat.ne_of_lt (Heap.lt_size e)) (Heap.get?_push_of_some _ e)
  exact h D _ h2.objs.size h₁ l FG ⟨hns, fun b o e => hk₁ b o (of_hideAll _ e), Nat.le_of_eq (hideAll_size _ _)⟩
    (fun p hp => ⟨hk₁ _ _ (N' p hp).1, Nat.ne_of_lt (Heap.lt_size (N' p hp).1), hideAll_none _ (List.mem_map_of_mem hp)⟩) BG (X₀.keeps st) (T.keeps st) (fun b o e n => hideAll_get _ (up b o e) (fun q => by
      rcases List.mem_cons.mp q with q | q
      · have := Heap.lt_size e; rw [hD, q] at this; exact Nat.lt_irrefl _ this
      · exact n q))
end
end Mine
end
section
open PySem PySem.W PyProof.Rows PySem.Calls
namespace Mine
section
variable {prog : Program} {w : World} {A : Around} {E : Value → Shared → Prop} {s : Shared} {K : Frag} {x C : Addr} {ox : Obj} {od : Option Obj}
theorem eqB_call {Q : Value → Shared → Prop} (X : K.In s.heap) (I : InstAt s.heap x ox C od) (ho : subIn K (.ref C) (.type "object") = some true) (h : Q (.bool true) s) :
    wpAny (model prog w) A (call (.builtin "object.__eq__") [.ref x, .ref x]) Q E s := by
  refine wpAny_call (codeAny_call_builtin PySem.F.slot_object_eq.plain PySem.F.entry_object_eq ?_)
  have hk : builtinKind "object.__eq__" = some .slot := by decide +kernel
  have hsp : splitId "object.__eq__" = some ("object", "__eq__") := by decide +kernel
  have ha := PySem.F.args_object_eq_2 (.ref x) (.ref x)
  simp only [checkBuiltinCall, hk, hsp]
  unfold isInstance
  refine wpAny_bind (wpAny_bind (I.type.here ((looks_subIn X ho).here ?_)))
  simp only [Bool.not_true, Bool.false_eq_true, if_false]
  have fin : wpAny (model prog w) A.in1 (Builtin.«object.__eq__» ⟨[.ref x, .ref x], []⟩) (fun fin s' => match fin with
      | .done f => (match (Except.ok f : Result) with | .ok (.ret v) => Q v s' | .ok _ => False | .error e => E e s')
      | .again c' => c'.quiet = true ∧ codeAny (model prog w) A c' (fun r s' => match r with | .ok (.ret v) => Q v s' | .ok _ => False | .error e => E e s') s') (fun e s' => E e s') s := by
    unfold Builtin.«object.__eq__»
    show wpAny _ _ (isSame (.ref x) (.ref x) >>= fun b => if b = true then ret (.bool true) else ret .notImplemented) _ _ _
    refine wpAny_bind (wpAny_isSame_ref_self ?_)
    rw [if_pos rfl]
    exact wpAny_pure h
  cases hsig : Manifest.signature? "object.__eq__" with
  | none => exact wpAny_pure fin
  | some sig =>
    simp only [argsOk, hsig] at ha
    have h2 : Bind.checkArgs "object.__eq__" sig ⟨[.ref x, .ref x], []⟩ = pure () := ha
    show wpAny _ _ (Bind.checkArgs "object.__eq__" sig ⟨[.ref x, .ref x], []⟩) _ _ _
    rw [h2]; exact wpAny_pure fin
theorem eq_same_inst {Q : Value → Shared → Prop} (hu : A.units < cLine) (X : K.In s.heap) (I : InstAt s.heap x ox C od) (hs : findIn K (.ref C) "__eq__" = some (some (.builtin "object.__eq__"))) (ho : subIn K (.ref C) (.type "object") = some true) (h : Q (.bool true) s) :
    wpAny (model prog w) A (compareOp .Eq (.ref x) (.ref x)) Q E s := by
  show wpAny _ _ (richCompare .Eq _ _) _ _ _
  have one : wpAny (model prog w) A (tryCompare (.ref x) (cmpInfo .Eq).2.1 (.ref x)) (fun r s' => ∃ v, r = some v ∧ Q v s') E s := by
    unfold tryCompare
    simp only [callSpecialIfBound?, bindSpecialIfBound?]
    have fin : wpAny (model prog w) A (call (.builtin "object.__eq__") ([.ref x] ++ [.ref x]) >>= fun v => pure (some v)) (fun r s' => wpAny (model prog w) A (match r with | some .notImplemented | none => pure none | some v => pure (some v)) (fun r s' => ∃ v, r = some v ∧ Q v s') E s') E s :=
      wpAny_bind (eqB_call X I ho (wpAny_pure (wpAny_pure ⟨_, rfl, h⟩)))
    refine wpAny_bind (wpAny_holding (wpAny_bind (wpAny_bind (wpAny_bind (I.type.here ((looks_findIn X hs).here ?_))))))
    refine wpAny_bind (wpAny_askSetting (wpAny_ite ?_))
    have hb := PySem.F.slot_object_eq.bind (.ref x)
    split
    · exact wpAny_bind (wpAny_of_eq hb (wpAny_pure fin))
    · exact wpAny_tryCatch (wpAny_bind (wpAny_of_eq hb (wpAny_pure fin)))
  unfold richCompare
  simp only [oneThing_ref]
  refine wpAny_holding (wpAny_bind (wpAny_cRoomFor hu ?_))
  refine wpAny_bind (I.type.here (wpAny_bind (I.type.here ?_)))
  simp only [bne_self_eq_false, Bool.false_eq_true, if_false]
  refine wpAny_bind (wpAny_pure ?_)
  simp only [Bool.false_eq_true, if_false]
  refine wpAny_bind (wpAny_mono one (fun r s' z => ?_) fun _ _ e => e)
  obtain ⟨v, rfl, hq⟩ := z
  exact wpAny_pure hq
end
end Mine
end
section
open PySem PySem.W PyProof.Rows PySem.Calls
namespace Mine
open PyProof.Rows.LCg
section
variable {prog : Program} {w : World} {A : Around} {E : Value → Shared → Prop} {s : Shared} {env : Env}
inductive ForR (prog : Program) (w : World) (A : Around) (env : Env) (x : Str) (px : Pos) (body : List Stmt) (Q : Flow → Shared → Prop) (xv : Value) (s₁ : Shared) : Prop
  | mk  (r : Addr) (b : Int) (t u v : Tok) (J : Addr → Nat → Shared → Prop) (h1 : xv = .ref r) (h2 : IsRange s₁.heap r 0 b 1 t u v) (h3 : b ≤ 1000) (h4 : -1000 ≤ b) (h5 : A.handled = none) (h6 : (∀ I h', s₁.heap.get? I = none → Keep s₁.heap h' → J I 0 { s₁ with heap := h' })) (h7 : (∀ I i s h' tk, J I i s → KeepBut [I] s.heap h' → J I i { s with heap := h', toks := tk })) (h8 : (∀ I (i : Nat) tk s, (i : Int) < b → J I i s → (∃ o, s.heap.get? I = some o) → wpAny (model prog w) A (assign (.Name x px) env (.int (i : Int) tk)) (fun _ s₂ => wpAny (model prog w) A (execs body env) (fun f s' => match f with
        | .ret v => Q (.ret v) s'
        | .brk => Q .next s'
        | _ => Stop (J I (i + 1) s' ∧ ∀ o, s.heap.get? I = some o → s'.heap.get? I = some o)) (fun _ _ => False) s₂) (fun _ _ => False) s)) (h9 : (∀ I s, J I b.toNat s → Q .next s)) : ForR prog w A env x px body Q xv s₁
theorem For_R {x : Str} {px pos : Pos} {iter : Expr} {body : List Stmt} {Q : Flow → Shared → Prop}
    (h : wpAny (model prog w) A (eval iter env) (fun xv s₁ => Stop (ForR prog w A env x px body Q xv s₁)) E s)
    (hs : ∀ x, foldedSetIterable iter env x = pure x := by intro _; rfl) :
    wpAny (model prog w) A (exec (.For (.Name x px) iter body [] pos) env) Q E s := by
  refine wpAny_For (wpAny_mono h (fun xv s₁ h₁ => ?_) fun _ _ e => e) hs
  obtain ⟨r, b, t, u, v, J, rfl, hr, hb1, hb2, hh, start, stable, turn, done⟩ := h₁.of
  refine wpAny_pyIter_range hr (small_one (by omega) (by omega) (by omega) (by omega)) ?_
  have hn : Builtin.Range.rangeSize 0 b 1 = ((b.toNat : Nat) : Int) := by rw [rangeSize_nat, Int.sub_zero]
  rw [hn]
  generalize hI : s₁.heap.objs.size = I
  have hfree : s₁.heap.get? I = none := by
    cases e : s₁.heap.get? I with
    | none => rfl
    | some o => exact absurd (Heap.lt_size e) (by rw [hI]; exact Nat.lt_irrefl _)
  have hit : IsRangeIter (s₁.heap.push { cls := .type "range_iterator", data := .fields #[rawInt 0, rawInt ((b.toNat : Nat) : Int), rawInt 1] }) I (0 + ((0 : Nat) : Int) * 1) (((b.toNat : Nat) : Int) - ((0 : Nat) : Int)) 1 := by
    rw [← hI]; simpa using Heap.get?_push_size _ rfl
  have W := Walks.range (prog := prog) (w := w) hh I 0 1 b.toNat
  refine codeAny_forLoop (fun k s' => ∃ i, J I i s' ∧ IsRangeIter s'.heap I (0 + ((i : Nat) : Int) * 1) (((b.toNat : Nat) : Int) - ((i : Nat) : Int)) 1 ∧ i ≤ b.toNat ∧ k = b.toNat + 1 - i) ?_ (b.toNat + 1)
    ⟨0, start I _ hfree (fun b o e => Heap.get?_push_of_some _ e), hit, Nat.zero_le _, rfl⟩
  rintro k s' ⟨i, hJ, hIt, hi, rfl⟩
  by_cases hlt : i < b.toNat
  · refine W.item i _ _ _ hlt hIt fun v h' tk hP st' hk => ?_
    obtain ⟨tv, rfl⟩ := hP
    have ev : (0 : Int) + (i : Int) * 1 = (i : Int) := by omega
    rw [ev]
    refine wpAny_mono (turn I i tv _ (by omega) (stable I i s' h' tk hJ hk) ⟨_, st'⟩) (fun _ s₂ h₂ => wpAny_mono h₂ (fun f s₃ h₃ => ?_) fun _ _ e => e.elim) fun _ _ e => e.elim
    have fin : (J I (i + 1) s₃ ∧ ∀ o, h'.get? I = some o → s₃.heap.get? I = some o) → ∃ m, m < b.toNat + 1 - i ∧ ∃ i, J I i s₃ ∧ IsRangeIter s₃.heap I (0 + ((i : Nat) : Int) * 1) (((b.toNat : Nat) : Int) - ((i : Nat) : Int)) 1 ∧ i ≤ b.toNat ∧ m = b.toNat + 1 - i :=
      fun ⟨hJ', hk'⟩ => ⟨b.toNat + 1 - (i + 1), ar_step hlt, i + 1, hJ', hk' _ st', hlt, rfl⟩
    cases f with
    | ret v => exact h₃
    | brk => exact h₃
    | next => exact fin h₃.of
    | cont => exact fin h₃.of
  · obtain rfl : i = b.toNat := ar_end hi hlt
    refine W.done _ _ _ hIt fun h' tk hk => wpAny_execs_nil ?_
    exact done I _ (stable I _ s' h' tk hJ hk)
theorem codeAny_compLoop_any {elt target iter : Expr} {ifs : List Expr} {scope : Scope} {pos : Pos} {it acc : Value} {env : Env} {R : Result → Shared → Prop} (I : Nat → Shared → Prop)
    (turn : ∀ n s, I n s → wpAny (model prog w) A (pyNext it) (fun r s₁ => match r with
      | none => R (.ok .next) s₁
      | some v => wpAny (model prog w) A (letOwnedTupleGo target it v) (fun _ s₁' => wpAny (model prog w) A (assign target env v) (fun _ s₂ =>
          wpAny (model prog w) A (forIn ifs true fun c r => if r = true then do let ok ← isTrue c env (eval c env); pure (ForInStep.yield ok) else pure (ForInStep.yield r)) (fun ok s₃ =>
            if ok = true then wpAny (model prog w) A (eval elt env) (fun x s₄ =>
              wpAny (model prog w) A (call (.builtin "list.append") [acc, x]) (fun _ s₅ => ∃ m, m < n ∧ I m s₅) (notedBy (model prog w) A env fun e s' => R (.error e) s') s₄) (notedBy (model prog w) A env fun e s' => R (.error e) s') s₃
            else ∃ m, m < n ∧ I m s₃) (notedBy (model prog w) A env fun e s' => R (.error e) s') s₂) (notedBy (model prog w) A env fun e s' => R (.error e) s') s₁') (notedBy (model prog w) A env fun e s' => R (.error e) s') s₁)
      (notedBy (model prog w) A env fun e s' => R (.error e) s') s)
    (n : Nat) (h : I n s) : codeAny (model prog w) A (.compLoop (.ListComp elt [⟨target, iter, ifs, 0⟩] scope pos) 0 it acc env) R s := by
  refine codeAny_loop rfl I (fun n s hI => ?_) n h
  show wpAny _ A ((compTurn (.ListComp elt [⟨target, iter, ifs, 0⟩] scope pos) 0 it acc env).onRaise (fun x => do noteFrame x env; theTreesLotGoes x)) _ _ s
  refine wpAny_noted ?_
  rw [compTurn_list]
  refine wpAny_bind (wpAny_standAt (wpAny_bind (wpAny_mono (turn n s hI) (fun r s₁ h₁ => ?_) fun _ _ h' => h')))
  cases r with
  | none => exact wpAny_pure h₁
  | some v =>
    refine wpAny_bind (wpAny_mono h₁ (fun _ s₁' h₁' => ?_) fun _ _ h' => h')
    refine wpAny_bind (wpAny_mono h₁' (fun _ s₂ h₂ => wpAny_bind (wpAny_mono h₂ (fun ok s₃ h₃ => ?_) fun _ _ h' => h')) fun _ _ h' => h')
    cases ok with
    | false => exact wpAny_pure ⟨rfl, h₃⟩
    | true =>
      exact wpAny_bind (wpAny_bind (wpAny_mono h₃ (fun x s₄ h₄ => wpAny_bind (wpAny_mono h₄ (fun _ s₅ h₅ => wpAny_pure (wpAny_pure ⟨rfl, h₅⟩)) fun _ _ h' => h')) fun _ _ h' => h'))
theorem compLoop_J {elt target iter : Expr} {ifs : List Expr} {scope : Scope} {pos : Pos} {cenv : Env} {I D ax : Addr} {its : List Value} {R : Result → Shared → Prop} (hh : A.handled = none)
    (own : List Addr) (hI : I ∈ own) (hD : D ∈ own) (hID : I ≠ D) (hax : ax ≠ I)
    (lot : ∀ v i (s : Shared) (Q : Unit → Shared → Prop) (E' : Value → Shared → Prop), v ∈ its → s.heap.IsListIter I ax i → Q () s → wpAny (model prog w) A (letOwnedTupleGo target (.ref I) v) Q E' s)
    (Ev : Option Value → Heap → Prop)
    (evKeep : ∀ v h h', Ev v h → (∀ b ∈ own, b ≠ I → b ≠ D → ∀ o, h.get? b = some o → h'.get? b = some o) → Ev v h')
    (J : Nat → List Value → Shared → Prop)
    (asg : ∀ v v₀ i ys (s : Shared) (Q : Unit → Shared → Prop) (E' : Value → Shared → Prop), v ∈ its → J i ys s → Ev v₀ s.heap → (∀ h' tk, (∀ b o, (b ∉ own ∨ b = I ∨ b = D) → s.heap.get? b = some o → h'.get? b = some o) → Ev (some v) h' → Q () { s with heap := h', toks := tk }) → wpAny (model prog w) A (assign target cenv v) Q E' s)
    (stable : ∀ i ys s h' tk, J i ys s → KeepBut own s.heap h' → J i ys { s with heap := h', toks := tk })
    (list : ∀ i ys s, J i ys s → s.heap.IsList ax its.toArray)
    (turn : ∀ i ys v (s : Shared), its[i]? = some v → J i ys s → Ev (some v) s.heap → (∀ b ∈ [I, D], ∃ o, s.heap.get? b = some o) →
      wpAny (model prog w) A (forIn ifs true fun c r => if r = true then do let ok ← isTrue c cenv (eval c cenv); pure (ForInStep.yield ok) else pure (ForInStep.yield r)) (fun ok s₃ =>
        if ok = true then wpAny (model prog w) A (eval elt cenv) (fun y s₄ => J (i + 1) (ys ++ [y]) s₄ ∧ ∀ b ∈ own, ∀ o, s.heap.get? b = some o → s₄.heap.get? b = some o) (fun _ _ => False) s₃
        else J (i + 1) ys s₃ ∧ ∀ b ∈ own, ∀ o, s.heap.get? b = some o → s₃.heap.get? b = some o) (fun _ _ => False) s)
    (hsz : its.length ≤ sizeLine)
    (fin : ∀ ys s v₀, J its.length ys s → s.heap.get? D = some (lst ys) → Ev v₀ s.heap → R (.ok .next) s)
    (hJ : J 0 [] s) (hDo : s.heap.get? D = some (lst [])) (hit : s.heap.IsListIter I ax 0) (v₀ : Option Value) (hEv : Ev v₀ s.heap) :
    codeAny (model prog w) A (.compLoop (.ListComp elt [⟨target, iter, ifs, 0⟩] scope pos) 0 (.ref I) (.ref D) cenv) R s := by
  have W := Walks.list (prog := prog) (w := w) hh I ax hax its.toArray
  refine codeAny_compLoop_any (fun k s' => ∃ i ys v, J i ys s' ∧ s'.heap.get? D = some (lst ys) ∧ s'.heap.IsListIter I ax i ∧ Ev v s'.heap ∧ ys.length ≤ i ∧ i ≤ its.length ∧ k = its.length + 1 - i) ?_ (its.length + 1)
    ⟨0, [], v₀, hJ, hDo, hit, hEv, Nat.le_refl _, Nat.zero_le _, rfl⟩
  rintro k s' ⟨i, ys, v₁, hJ, hDo, hIt, hEv, hyl, hi, rfl⟩
  have st : s'.heap.IsListIter I ax i ∧ s'.heap.IsList ax its.toArray := ⟨hIt, list _ _ _ hJ⟩
  have ofI : ∀ {h' : Heap}, (∀ b o, b ∉ [I] → s'.heap.get? b = some o → h'.get? b = some o) → KeepBut own s'.heap h' := fun hk b o hb e => hk b o (fun q => hb (by rw [List.mem_singleton.mp q]; exact hI)) e
  by_cases hlt : i < its.length
  · refine W.item i _ _ _ (by simpa using hlt) st fun v h' tk hP st' hk => ?_
    have hv : its[i]? = some v := by simpa using hP
    have hm : v ∈ its := List.mem_of_getElem? hv
    have hD' : h'.get? D = some (lst ys) := hk D _ (fun q => hID (List.mem_singleton.mp q).symm) hDo
    have hEv' : Ev v₁ h' := evKeep _ _ _ hEv fun b _ b1 _ o e => hk b o (fun q => b1 (List.mem_singleton.mp q)) e
    refine lot v (i + 1) _ _ _ hm st'.1 ?_
    refine asg v v₁ i ys _ _ _ hm (stable i ys s' h' tk hJ (ofI hk)) hEv' fun h₂ tk₂ hk₂ hEv₂ => ?_
    obtain ⟨oI, eI, rI⟩ := st'.1
    have eI₂ : h₂.get? I = some oI := hk₂ I oI (.inr (.inl rfl)) eI
    have eD₂ : h₂.get? D = some (lst ys) := hk₂ D _ (.inr (.inr rfl)) hD'
    have J₂ : J i ys { s' with heap := h₂, toks := tk₂ } := stable i ys s' h₂ tk₂ hJ fun b o hb e => hk₂ b o (.inl hb) (ofI hk b o hb e)
    refine wpAny_mono (turn i ys v _ hv J₂ hEv₂ (fun b hb => ?_)) (fun ok s₃ h₃ => ?_) fun _ _ e => e.elim
    · refine memc hb ?_ fun hb => ?_
      · exact ⟨_, eI₂⟩
      · rw [List.mem_singleton.mp hb]; exact ⟨_, eD₂⟩
    cases ok with
    | false =>
      simp only [Bool.false_eq_true, if_false] at h₃ ⊢
      obtain ⟨hJ', hk'⟩ := h₃
      exact ⟨its.length + 1 - (i + 1), ar_step hlt, i + 1, ys, some v, hJ', hk' D hD _ eD₂, ⟨oI, hk' I hI _ eI₂, rI⟩, evKeep _ _ _ hEv₂ (fun b hb _ _ o e => hk' b hb o e), Nat.le_succ_of_le hyl, hlt, rfl⟩
    | true =>
      simp only [if_true] at h₃ ⊢
      refine wpAny_mono h₃ (fun y s₄ h₄ => ?_) fun _ _ e => e.elim
      obtain ⟨hJ', hk'⟩ := h₄
      refine append_at (hsz := by show ys.toArray.size ≤ sizeLine; rw [List.size_toArray]; exact Nat.le_trans (Nat.le_trans hyl hi) hsz) (hk' D hD _ eD₂) fun h₅ hs₅ hD₅ => ?_
      have k₅ : ∀ b o, b ≠ D → s₄.heap.get? b = some o → h₅.get? b = some o := fun b o hb e => (hs₅.2 b hb).trans e
      refine ⟨its.length + 1 - (i + 1), ar_step hlt, i + 1, ys ++ [y], some v, stable _ _ _ h₅ s₄.toks hJ' (fun b o hb e => k₅ b o (fun q => hb (q ▸ hD)) e), hD₅.trans (congrArg some (lst_snoc ys y)), ⟨oI, k₅ I _ hID (hk' I hI _ eI₂), rI⟩,
        evKeep _ _ _ (evKeep _ _ s₄.heap hEv₂ (fun b hb _ _ o e => hk' b hb o e)) (fun b _ _ b2 o e => k₅ b o b2 e), by rw [List.length_append, List.length_singleton]; exact Nat.succ_le_succ hyl, hlt, rfl⟩
  · obtain rfl : i = its.length := ar_end hi hlt
    refine W.done _ _ _ (by simpa using st) fun h' tk hk => ?_
    exact fin ys _ v₁ (stable _ _ s' h' tk hJ (ofI hk)) (hk D _ (fun q => hID (List.mem_singleton.mp q).symm) hDo) (evKeep _ _ _ hEv fun b _ b1 _ o e => hk b o (fun q => b1 (List.mem_singleton.mp q)) e)
theorem comp_base {elt target iter : Expr} {ifs : List Expr} {scope : Scope} {cl : List (Str × Addr)} {pos : Pos} {RR : Value → Addr → Result → Shared → Prop} {s₁ : Shared} {ax : Addr} {its : List Value} {J : List Addr → Nat → List Value → Shared → Prop} (Ev : Addr → Option Value → Heap → Prop)
    (hcell : ∀ y ∈ scope.names, y.2 ≠ .cell) (hkind : scope.kind = .function) (hl : s₁.heap.IsList ax its.toArray) (hsz : its.length ≤ sizeLine) (hh : A.handled = none)
    (lot : ∀ v i I (s : Shared) (Q : Unit → Shared → Prop) (E' : Value → Shared → Prop), v ∈ its → s.heap.IsListIter I ax i → Q () s → wpAny (model prog w) A (letOwnedTupleGo target (.ref I) v) Q E' s)
    (ev0 : ∀ C h, h.Ns C (fun _ => none) → Ev C none h) (evNs : ∀ C v h, Ev C v h → ∃ m, h.Ns C m) (evKeep : ∀ C v h h', Ev C v h → (∀ o, h.get? C = some o → h'.get? C = some o) → Ev C v h')
    (asg : ∀ own C v v₀ i ys (s : Shared) (Q : Unit → Shared → Prop) (E' : Value → Shared → Prop), v ∈ its → J own i ys s → Ev C v₀ s.heap → (∀ h' tk, (∀ b o, b ≠ C → s.heap.get? b = some o → h'.get? b = some o) → Ev C (some v) h' → Q () { s with heap := h', toks := tk }) → wpAny (model prog w) A (assign target (compEnvC scope cl C env) v) Q E' s)
    (start : ∀ own h' tk, (∀ a ∈ own, s₁.heap.get? a = none) → Keep s₁.heap h' → J own 0 [] { s₁ with heap := h', toks := tk })
    (stable : ∀ own i ys s h' tk, J own i ys s → KeepBut own s.heap h' → J own i ys { s with heap := h', toks := tk })
    (list : ∀ own i ys s, J own i ys s → s.heap.IsList ax its.toArray)
    (turn : ∀ own i ys v s C, C ∈ own → its[i]? = some v → J own i ys s → Ev C (some v) s.heap → (∀ a ∈ own, ∃ o, s.heap.get? a = some o) →
        wpAny (model prog w) A (forIn ifs true fun c r => if r = true then do let ok ← isTrue c (compEnvC scope cl C env) (eval c (compEnvC scope cl C env)); pure (ForInStep.yield ok) else pure (ForInStep.yield r)) (fun ok s₃ =>
          if ok = true then wpAny (model prog w) A (eval elt (compEnvC scope cl C env)) (fun y s₄ => Stop (J own (i + 1) (ys ++ [y]) s₄ ∧ ∀ b ∈ own, ∀ o, s.heap.get? b = some o → s₄.heap.get? b = some o)) (fun _ _ => False) s₃
          else Stop (J own (i + 1) ys s₃ ∧ ∀ b ∈ own, ∀ o, s.heap.get? b = some o → s₃.heap.get? b = some o)) (fun _ _ => False) s)
    (fin : ∀ own D C ys s m, D ∈ own → C ∈ own → D ≠ C → J own its.length ys s → s.heap.get? D = some (lst ys) → s.heap.Ns C m → RR (.ref D) C (.ok .next) s) :
    wpAny (model prog w) A (pyIter (.ref ax)) (fun it s₂ => wpAny (model prog w) A (newList []) (fun acc s₃ => wpAny (model prog w) A (newFunctionEnv scope env.globals cl [] env.qual none .none (some env)) (fun cenv s₄ =>
      codeAny (model prog w) A (.compStart (.ListComp elt [⟨target, iter, ifs, 0⟩] scope pos) 0 it acc { cenv with scope := relabel scope env }) (RR acc cenv.locals) s₄) E s₃) E s₂) E s₁ := by
  refine wpAny_pyIter_list hl ?_
  refine wpAny_newObj_type (wpAny_newFunctionEnv hcell (by intro y hy; simp at hy) (fun h₁ hns₁ hsb₁ => ?_) hkind) (by size_fits)
  dsimp only at hns₁ hsb₁ ⊢
  generalize hIo : ({ cls := .type "list_iterator", data := .fields #[.ref ax, .int 0 0] } : Obj) = oI at hns₁ hsb₁ ⊢
  generalize hDo : ({ cls := .type "list", dict := none, data := .seq ([] : List Value).toArray } : Obj) = oD at hns₁ hsb₁ ⊢
  generalize hI : s₁.heap.objs.size = I
  generalize hD : (s₁.heap.push oI).objs.size = D
  generalize hC : ((s₁.heap.push oI).push oD).objs.size = C at hns₁ hsb₁ ⊢
  have eD : D = I + 1 := by rw [← hD, Heap.size_push, hI]
  have eC : C = I + 2 := by rw [← hC, Heap.size_push, hD, eD]
  have nID : @Ne Nat I D := ar_ne 0 eD
  have nIC : @Ne Nat I C := ar_ne 1 eC
  have nDC : @Ne Nat D C := ar_ne 0 (by rw [eC, eD])
  have old : ∀ b o, @Ne Nat b C → ((s₁.heap.push oI).push oD).get? b = some o → h₁.get? b = some o := fun b o hb e => hsb₁.extBut b o hb (Heap.get?_push_of_some _ e)
  have kp : Keep s₁.heap h₁ := fun b o e => old b o (by have := Heap.lt_size e; rw [hI] at this; exact Nat.ne_of_lt (eC ▸ Nat.lt_of_lt_of_le this (Nat.le_add_right I 2))) (Heap.get?_push_of_some _ (Heap.get?_push_of_some _ e))
  have gI : h₁.get? I = some oI := old _ _ nIC (Heap.get?_push_of_some _ (by rw [← hI]; exact Heap.get?_push_size _ (by rw [← hIo]; rfl)))
  have gD : h₁.get? D = some oD := old _ _ nDC (by rw [← hD]; exact Heap.get?_push_size _ (by rw [← hDo]; rfl))
  have free : ∀ a, I ≤ a → s₁.heap.get? a = none := fun a ha => by
    cases e : s₁.heap.get? a with
    | none => rfl
    | some o => exact absurd (Heap.lt_size e) (by rw [hI]; exact Nat.not_lt.mpr ha)
  have hax : ax < I := by obtain ⟨_, e, _⟩ := hl; rw [← hI]; exact Heap.lt_size e
  have nax : @Ne Nat ax I := Nat.ne_of_lt hax
  have own0 : ∀ a ∈ [I, D, C], s₁.heap.get? a = none := fun a ha => by
    simp only [List.mem_cons, List.not_mem_nil, or_false] at ha
    rcases ha with rfl | rfl | rfl
    · exact free _ (Nat.le_refl _)
    · exact free _ (by rw [eD]; exact Nat.le_add_right _ _)
    · exact free _ (by rw [eC]; exact Nat.le_add_right _ _)
  have hit : h₁.IsListIter I ax 0 := ⟨oI, gI, by subst hIo; rfl, by subst hIo; rfl⟩
  have hCm : C ∈ [I, D, C] := .tail _ (.tail _ (.head _))
  have hDm : D ∈ [I, D, C] := .tail _ (.head _)
  have loop : codeAny (model prog w) A (.compLoop (.ListComp elt [⟨target, iter, ifs, 0⟩] scope pos) 0 (.ref I) (.ref D) (compEnvC scope cl C env)) (RR (.ref D) C)
      { s₁ with heap := h₁, toks := s₁.toks + ([] : List (Str × Value)).length } := by
    refine compLoop_J (ax := ax) (its := its) hh [I, D, C] (.head _) hDm nID nax (fun v i s Q' E' hv hi hq => lot v i I s Q' E' hv hi hq) (Ev C) ?_ (J [I, D, C]) ?_ (stable _) (list _) ?_ hsz ?_
      (start _ h₁ _ own0 kp) (by rw [gD, ← hDo]; rfl) hit none (ev0 C h₁ hns₁)
    · exact fun v h h' e hk => evKeep C v h h' e fun o e => hk C hCm nIC.symm nDC.symm o e
    · intro v v₀ i ys s Q' E' hv hJ he hQ
      refine asg _ C v v₀ i ys s Q' E' hv hJ he fun h' tk hk => hQ h' tk fun b o hb e => hk b o ?_ e
      rcases hb with hb | rfl | rfl
      · exact fun q => hb (q ▸ hCm)
      · exact nIC
      · exact nDC
    · intro i ys v s hv hJ he hex
      refine wpAny_mono (turn _ i ys v s C hCm hv hJ he fun a ha => ?_) (fun ok s₃ h₃ => ?_) fun _ _ e => e
      rotate_left
      · cases ok with
        | false => simp only [Bool.false_eq_true, if_false] at h₃ ⊢; exact h₃.of
        | true => simp only [if_true] at h₃ ⊢; exact wpAny_mono h₃ (fun _ _ e => e.of) fun _ _ e => e
      simp only [List.mem_cons, List.not_mem_nil, or_false] at ha
      rcases ha with rfl | rfl | rfl
      · exact hex _ (.head _)
      · exact hex _ (.tail _ (.head _))
      · obtain ⟨m, hn⟩ := evNs _ _ _ he
        obtain ⟨o, _, _, e, _⟩ := hn; exact ⟨o, e⟩
    · intro ys s v₀ hJ hDs he
      obtain ⟨m, hn⟩ := evNs _ _ _ he
      exact fin _ D C ys s m hDm hCm nDC hJ hDs hn
  have W := Walks.list (prog := prog) (w := w) hh I ax nax its.toArray
  exact codeAny_compStart_list loop (W.self 0 _ _ _ ⟨hit, hl.at fun o e => kp _ _ e⟩ loop)
theorem comp_core {elt iter : Expr} {x : Str} {px : Pos} {ifs : List Expr} {scope : Scope} {cl : List (Str × Addr)} {pos : Pos} {RR : Value → Addr → Result → Shared → Prop} {s₁ : Shared} {ax : Addr} {its : List Value} {J : List Addr → Nat → List Value → Shared → Prop}
    (hcell : ∀ y ∈ scope.names, y.2 ≠ .cell) (hkind : scope.kind = .function) (hx : scope.names.lookup x = some .local) (hl : s₁.heap.IsList ax its.toArray) (hsz : its.length ≤ sizeLine) (hh : A.handled = none)
    (start : ∀ own h' tk, (∀ a ∈ own, s₁.heap.get? a = none) → Keep s₁.heap h' → J own 0 [] { s₁ with heap := h', toks := tk })
    (stable : ∀ own i ys s h' tk, J own i ys s → KeepBut own s.heap h' → J own i ys { s with heap := h', toks := tk })
    (list : ∀ own i ys s, J own i ys s → s.heap.IsList ax its.toArray)
    (turn : ∀ own i ys v s C m₂, C ∈ own → its[i]? = some v → J own i ys s → s.heap.Ns C m₂ → m₂ x = some v → (∀ a ∈ own, ∃ o, s.heap.get? a = some o) →
        wpAny (model prog w) A (forIn ifs true fun c r => if r = true then do let ok ← isTrue c (compEnvC scope cl C env) (eval c (compEnvC scope cl C env)); pure (ForInStep.yield ok) else pure (ForInStep.yield r)) (fun ok s₃ =>
          if ok = true then wpAny (model prog w) A (eval elt (compEnvC scope cl C env)) (fun y s₄ => Stop (J own (i + 1) (ys ++ [y]) s₄ ∧ ∀ b ∈ own, ∀ o, s.heap.get? b = some o → s₄.heap.get? b = some o)) (fun _ _ => False) s₃
          else Stop (J own (i + 1) ys s₃ ∧ ∀ b ∈ own, ∀ o, s.heap.get? b = some o → s₃.heap.get? b = some o)) (fun _ _ => False) s)
    (fin : ∀ own D C ys s m, D ∈ own → C ∈ own → D ≠ C → J own its.length ys s → s.heap.get? D = some (lst ys) → s.heap.Ns C m → RR (.ref D) C (.ok .next) s) :
    wpAny (model prog w) A (pyIter (.ref ax)) (fun it s₂ => wpAny (model prog w) A (newList []) (fun acc s₃ => wpAny (model prog w) A (newFunctionEnv scope env.globals cl [] env.qual none .none (some env)) (fun cenv s₄ =>
      codeAny (model prog w) A (.compStart (.ListComp elt [⟨.Name x px, iter, ifs, 0⟩] scope pos) 0 it acc { cenv with scope := relabel scope env }) (RR acc cenv.locals) s₄) E s₃) E s₂) E s₁ := by
  refine comp_base (fun C v h => ∃ m, h.Ns C m ∧ ∀ u, v = some u → m x = some u) hcell hkind hl hsz hh (fun v i I s Q' E' _ _ hq => wpAny_of_eq (by rfl) hq) (fun C h hn => ⟨_, hn, fun _ q => nomatch q⟩) (fun C v h e => e.imp fun _ e => e.1) (fun C v h h' e hk => e.imp fun _ e => ⟨e.1.at' hk, e.2⟩) ?_ start stable list ?_ fin
  · rintro own C v v₀ i ys s Q' E' _ _ ⟨m, hn, _⟩ hQ
    exact wpAny_assign_Name (wpAny_storeName_local (lookup_relabel_local hx) hn (fun h' hn' hs' => hQ h' _ (fun b o hb e => (hs'.2 b hb).trans e) ⟨_, hn', fun u q => by cases q; simp⟩) (by simp [compEnvC, relabel, hkind]))
  · rintro own i ys v s C hC hv hJ ⟨m, hn, hm⟩ hex
    exact turn own i ys v s C m hC hv hJ hn (hm v rfl) hex
inductive LcN (prog : Program) (w : World) (A : Around) (env : Env) (elt : Expr) (x : Str) (ifs : List Expr) (scope : Scope) (cl : List (Str × Addr)) (Q : Value → Shared → Prop) (xv : Value) (s₁ : Shared) : Prop
  | mk  (ax : Addr) (its : List Value) (J : List Addr → Nat → List Value → Shared → Prop) (h1 : xv = .ref ax) (h2 : s₁.heap.IsList ax its.toArray) (h3 : its.length ≤ sizeLine) (h4 : A.handled = none) (h5 : (∀ own h' tk, (∀ a ∈ own, s₁.heap.get? a = none) → Keep s₁.heap h' → J own 0 [] { s₁ with heap := h', toks := tk })) (h6 : (∀ own i ys s h' tk, J own i ys s → KeepBut own s.heap h' → J own i ys { s with heap := h', toks := tk })) (h7 : (∀ own i ys s, J own i ys s → s.heap.IsList ax its.toArray)) (h8 : (∀ own i ys v s C m₂, C ∈ own → its[i]? = some v → J own i ys s → s.heap.Ns C m₂ → m₂ x = some v → (∀ a ∈ own, ∃ o, s.heap.get? a = some o) →
        wpAny (model prog w) A (forIn ifs true fun c r => if r = true then do let ok ← isTrue c (compEnvC scope cl C env) (eval c (compEnvC scope cl C env)); pure (ForInStep.yield ok) else pure (ForInStep.yield r)) (fun ok s₃ =>
          if ok = true then wpAny (model prog w) A (eval elt (compEnvC scope cl C env)) (fun y s₄ => Stop (J own (i + 1) (ys ++ [y]) s₄ ∧ ∀ b ∈ own, ∀ o, s.heap.get? b = some o → s₄.heap.get? b = some o)) (fun _ _ => False) s₃
          else Stop (J own (i + 1) ys s₃ ∧ ∀ b ∈ own, ∀ o, s.heap.get? b = some o → s₃.heap.get? b = some o)) (fun _ _ => False) s)) (h9 : (∀ own D ys s, D ∈ own → J own its.length ys s → s.heap.get? D = some (lst ys) → Q (.ref D) s)) : LcN prog w A env elt x ifs scope cl Q xv s₁
theorem ListComp_N {elt iter : Expr} {x : Str} {px : Pos} {ifs : List Expr} {scope : Scope} {cl : List (Str × Addr)} {pos : Pos} {Q : Value → Shared → Prop}
    (hclos : closureFor scope env = pure cl) (hcell : ∀ y ∈ scope.names, y.2 ≠ .cell) (hkind : scope.kind = .function) (hnames : ∀ y ∈ scope.names, y.2 = .local → scope.names.lookup y.1 = some .local) (hx : scope.names.lookup x = some .local)
    (h : wpAny (model prog w) A (eval iter env) (fun xv s₁ => Stop (LcN prog w A env elt x ifs scope cl Q xv s₁)) E s)
    (hs : ∀ x, foldedSetIterable iter env x = pure x := by intro _; rfl) :
    wpAny (model prog w) A (eval (.ListComp elt [⟨.Name x px, iter, ifs, 0⟩] scope pos) env) Q E s := by
  rw [eval_ListComp]
  refine wpAny_comprehension_free (use := none) rfl hs hclos hkind hnames (wpAny_mono h (fun xv s₁ h₁ => ?_) fun _ _ e => e)
  obtain ⟨ax, its, J, rfl, hl, hsz, hh, start, stable, list, turn, fin⟩ := h₁.of
  refine comp_core hcell hkind hx hl hsz hh start stable list turn ?_
  intro own D C ys s m hD hC nDC hJ hDs hn
  exact ⟨m, hn, fun h' hs' => fin _ D ys _ hD (stable _ _ _ s h' s.toks hJ fun b o hb e => (hs'.2 b fun q => hb (q ▸ hC)).trans e) ((hs'.2 D nDC).trans hDs)⟩
inductive AsN (prog : Program) (w : World) (A : Around) (env : Env) (elt : Expr) (x y : Str) (ifs : List Expr) (scope : Scope) (cl : List (Str × Addr)) (Q : Flow → Shared → Prop) (xv : Value) (s₁ : Shared) : Prop
  | mk  (ax : Addr) (its : List Value) (J : List Addr → Nat → List Value → Shared → Prop) (h1 : xv = .ref ax) (h2 : s₁.heap.IsList ax its.toArray) (h3 : its.length ≤ sizeLine) (h4 : A.handled = none) (h5 : (∀ own h' tk, (∀ a ∈ own, s₁.heap.get? a = none) → Keep s₁.heap h' → J own 0 [] { s₁ with heap := h', toks := tk })) (h6 : (∀ own i ys s h' tk, J own i ys s → KeepBut own s.heap h' → J own i ys { s with heap := h', toks := tk })) (h7 : (∀ own i ys s, J own i ys s → s.heap.IsList ax its.toArray)) (h8 : (∀ own i ys v s C m₂, C ∈ own → its[i]? = some v → J own i ys s → s.heap.Ns C m₂ → m₂ x = some v → (∀ a ∈ own, ∃ o, s.heap.get? a = some o) →
        wpAny (model prog w) A (forIn ifs true fun c r => if r = true then do let ok ← isTrue c (compEnvC scope cl C env) (eval c (compEnvC scope cl C env)); pure (ForInStep.yield ok) else pure (ForInStep.yield r)) (fun ok s₃ =>
          if ok = true then wpAny (model prog w) A (eval elt (compEnvC scope cl C env)) (fun y s₄ => Stop (J own (i + 1) (ys ++ [y]) s₄ ∧ ∀ b ∈ own, ∀ o, s.heap.get? b = some o → s₄.heap.get? b = some o)) (fun _ _ => False) s₃
          else Stop (J own (i + 1) ys s₃ ∧ ∀ b ∈ own, ∀ o, s.heap.get? b = some o → s₃.heap.get? b = some o)) (fun _ _ => False) s)) (h9 : (∀ own D ys s, D ∈ own → J own its.length ys s → s.heap.get? D = some (lst ys) → ∃ m, env.locals ∉ own ∧ s.heap.Ns env.locals m ∧
        ∀ h' tk, h'.Ns env.locals (fun z => if z = y then some (.ref D) else m z) → (∀ b o, b ≠ env.locals → (b ∉ own ∨ b = D) → s.heap.get? b = some o → h'.get? b = some o) → Q .next { s with heap := h', toks := tk })) : AsN prog w A env elt x y ifs scope cl Q xv s₁
theorem Assign_ListComp_N {elt iter : Expr} {x y : Str} {px py : Pos} {ifs : List Expr} {scope : Scope} {cl : List (Str × Addr)} {pos spos : Pos} {Q : Flow → Shared → Prop}
    (hsw : swapsWith (.ListComp elt [⟨.Name x px, iter, ifs, 0⟩] scope pos) (some (.Name y py)) spos.line env = pure true)
    (hclos : closureFor scope env = pure cl) (hcell : ∀ y ∈ scope.names, y.2 ≠ .cell) (hkind : scope.kind = .function) (hnames : ∀ y ∈ scope.names, y.2 = .local → scope.names.lookup y.1 = some .local) (hx : scope.names.lookup x = some .local)
    (hy : env.kindOf y = some .local) (hp : (env.scope.kind == .class || (env.scope.kind == .module && env.locals != env.globals)) = false)
    (h : wpAny (model prog w) A (eval iter env) (fun xv s₁ => Stop (AsN prog w A env elt x y ifs scope cl Q xv s₁)) E s)
    (hs : ∀ x, foldedSetIterable iter env x = pure x := by intro _; rfl) :
    wpAny (model prog w) A (exec (.Assign [.Name y py] (.ListComp elt [⟨.Name x px, iter, ifs, 0⟩] scope pos) spos) env) Q E s := by
  rw [exec_Assign_Name_used _ _ _ _ hsw]
  refine wpAny_bind (wpAny_standAt (wpAny_bind ?_))
  show wpAny _ A (do let _ ← comprehension (.ListComp elt [⟨.Name x px, iter, ifs, 0⟩] scope pos) scope env _ (newList []) false (eval iter env) (some (assign (.Name y py) env))) _ _ s
  refine wpAny_bind (wpAny_mono (wpAny_comprehension_free (use := some (assign (.Name y py) env)) (Q := fun _ s' => Q .next s') rfl hs hclos hkind hnames
    (wpAny_mono h (fun xv s₁ h₁ => ?_) fun _ _ e => e)) (fun _ s' hq => wpAny_pure (wpAny_pure hq)) fun _ _ e => e)
  obtain ⟨ax, its, J, rfl, hl, hsz, hh, start, stable, list, turn, fin⟩ := h₁.of
  refine comp_core hcell hkind hx hl hsz hh start stable list turn ?_
  intro own D C ys s m hD hC nDC hJ hDs hn
  obtain ⟨mL, hLo, hnL, fin⟩ := fin own D ys s hD hJ hDs
  have hLC : env.locals ≠ C := fun q => hLo (q ▸ hC)
  have hLD : env.locals ≠ D := fun q => hLo (q ▸ hD)
  show wpAny _ A (assign (.Name y py) env (.ref D)) _ _ _
  refine wpAny_assign_Name (wpAny_storeName_local hy hnL (fun h₂ hn₂ hs₂ => ?_) hp)
  refine ⟨m, hn.sameBut hs₂ (Ne.symm hLC), fun h₃ hs₃ => ?_⟩
  refine fin h₃ _ (hn₂.sameBut hs₃ hLC) fun b o hbL hbf e => (hs₃.2 b ?_).trans ((hs₂.2 b hbL).trans e)
  rcases hbf with hbf | rfl
  · exact fun q => hbf (q ▸ hC)
  · exact nDC
inductive ZJ {α : Type} (s₁ : Shared) (xs : List α) (pz : α → Bool) (f : α → Value) (own : List Addr) (i : Nat) (ys : List Value) (t : Shared) : Prop
  | mk (h' : Heap) (tk : Nat) (ho : ∀ a ∈ own, s₁.heap.get? a = none) (e : ys = ((xs.take i).filter pz).map f) (k : Keep s₁.heap h') (ht : t = { s₁ with heap := h', toks := tk }) : ZJ s₁ xs pz f own i ys t
section
variable {α : Type} {s₁ t : Shared} {xs : List α} {pz : α → Bool} {f : α → Value} {own : List Addr} {i tk : Nat} {ys : List Value} {h' : Heap} {v : α}
theorem zj_start (ho : ∀ a ∈ own, s₁.heap.get? a = none) (k : Keep s₁.heap h') : ZJ s₁ xs pz f own 0 [] { s₁ with heap := h', toks := tk } := ⟨_, _, ho, rfl, k, rfl⟩
theorem zj_stable (J : ZJ s₁ xs pz f own i ys t) (kb : KeepBut own t.heap h') : ZJ s₁ xs pz f own i ys { t with heap := h', toks := tk } := by
  obtain ⟨_, _, ho, e, k, rfl⟩ := J
  exact ⟨_, _, ho, e, fun b o e => kb b o (fun q => by rw [ho b q] at e; cases e) (k b o e), rfl⟩
theorem zj_keep (J : ZJ s₁ xs pz f own i ys t) : Keep s₁.heap t.heap := by
  obtain ⟨_, _, _, _, k, rfl⟩ := J
  exact k
theorem zj_no (ho : ∀ a ∈ own, s₁.heap.get? a = none) (e : ys = ((xs.take i).filter pz).map f) (k : Keep s₁.heap h') (hv : xs[i]? = some v) (hp : pz v = false) : ZJ s₁ xs pz f own (i + 1) ys { s₁ with heap := h', toks := tk } := by
  refine ⟨_, _, ho, ?_, k, rfl⟩
  rw [List.take_add_one, hv, List.filter_append, List.map_append, ← e]; simp [hp]
theorem zj_yes (ho : ∀ a ∈ own, s₁.heap.get? a = none) (e : ys = ((xs.take i).filter pz).map f) (k : Keep s₁.heap h') (hv : xs[i]? = some v) (hp : pz v = true) : ZJ s₁ xs pz f own (i + 1) (ys ++ [f v]) { s₁ with heap := h', toks := tk } := by
  refine ⟨_, _, ho, ?_, k, rfl⟩
  rw [List.take_add_one, hv, List.filter_append, List.map_append, ← e]; simp [hp]
end
inductive LcP (prog : Program) (w : World) (A : Around) (env : Env) (elt ct : Expr) (a b : Str) (scope : Scope) (cl : List (Str × Addr)) (Q : Value → Shared → Prop) (xv : Value) (s₁ : Shared) : Prop
  | mk  (ax : Addr) (its : List Value) (prs : List (Value × Value)) (pz : Value × Value → Bool) (f : Value × Value → Value) (h1 : xv = .ref ax) (h2 : s₁.heap.IsList ax its.toArray) (h3 : its.length ≤ sizeLine) (h4 : A.handled = none) (h5 : its.length = prs.length) (h6 : (∀ (i : Nat) (v va vb : Value), its[i]? = some v → prs[i]? = some (va, vb) → ∃ x, v = Value.ref x ∧ s₁.heap.IsList x #[va, vb])) (h7 : (∀ (i : Nat) (va vb : Value) C m₂ h tk, prs[i]? = some (va, vb) → Keep s₁.heap h → s₁.heap.get? C = none → h.Ns C m₂ → m₂ a = some va → m₂ b = some vb →
        wpAny (model prog w) A (isTrue ct (compEnvC scope cl C env) (eval ct (compEnvC scope cl C env))) (fun ok s' => Stop (ok = pz (va, vb) ∧ ∃ h' tk', s' = { s₁ with heap := h', toks := tk' } ∧ Keep h h')) (fun _ _ => False) { s₁ with heap := h, toks := tk })) (h8 : (∀ (i : Nat) (va vb : Value) C m₂ h tk, prs[i]? = some (va, vb) → pz (va, vb) = true → Keep s₁.heap h → s₁.heap.get? C = none → h.Ns C m₂ → m₂ a = some va → m₂ b = some vb →
        wpAny (model prog w) A (eval elt (compEnvC scope cl C env)) (fun y s' => Stop (y = f (va, vb) ∧ ∃ h' tk', s' = { s₁ with heap := h', toks := tk' } ∧ Keep h h')) (fun _ _ => False) { s₁ with heap := h, toks := tk })) (h9 : (∀ D h' tk, Keep s₁.heap h' → s₁.heap.get? D = none → h'.get? D = some (lst ((prs.filter pz).map f)) → Q (.ref D) { s₁ with heap := h', toks := tk })) : LcP prog w A env elt ct a b scope cl Q xv s₁
theorem ListComp_P {elt iter ct : Expr} {a b : Str} {pa pb tp : Pos} {tk : Nat} {scope : Scope} {cl : List (Str × Addr)} {pos : Pos} {Q : Value → Shared → Prop}
    (hclos : closureFor scope env = pure cl) (hcell : ∀ y ∈ scope.names, y.2 ≠ .cell) (hkind : scope.kind = .function) (hnames : ∀ y ∈ scope.names, y.2 = .local → scope.names.lookup y.1 = some .local) (ha : scope.names.lookup a = some .local) (hb : scope.names.lookup b = some .local) (hab : a ≠ b)
    (h : wpAny (model prog w) A (eval iter env) (fun xv s₁ => Stop (LcP prog w A env elt ct a b scope cl Q xv s₁)) E s)
    (hs : ∀ x, foldedSetIterable iter env x = pure x := by intro _; rfl) :
    wpAny (model prog w) A (eval (.ListComp elt [⟨.Tuple [.Name a pa, .Name b pb] tk tp, iter, [ct], 0⟩] scope pos) env) Q E s := by
  rw [eval_ListComp]
  refine wpAny_comprehension_free (use := none) rfl hs hclos hkind hnames (wpAny_mono h (fun xv s₁ h₁ => ?_) fun _ _ e => e)
  obtain ⟨ax, its, prs, pz, f, rfl, hl, hsz, hh, hlen, src, tst, elm, fin⟩ := h₁.of
  have src' : ∀ v ∈ its, ∃ (i : Nat) (va vb : Value) (x : Addr), its[i]? = some v ∧ prs[i]? = some (va, vb) ∧ v = .ref x ∧ s₁.heap.IsList x #[va, vb] := fun v hv => by
    obtain ⟨i, hi, rfl⟩ := List.getElem_of_mem hv
    have hp : prs[i]? = some (prs[i]'(hlen ▸ hi)) := List.getElem?_eq_getElem _
    have hv : its[i]? = some its[i] := List.getElem?_eq_getElem _
    obtain ⟨x, ex, hx⟩ := src i _ (prs[i]'(hlen ▸ hi)).1 (prs[i]'(hlen ▸ hi)).2 hv hp
    exact ⟨i, _, _, x, hv, hp, ex, hx⟩
  refine comp_base (J := ZJ s₁ prs pz f)
    (fun C v h => ∃ m, h.Ns C m ∧ ∀ x, v = some (.ref x) → ∀ va vb, s₁.heap.IsList x #[va, vb] → m a = some va ∧ m b = some vb) hcell hkind hl hsz hh (fun v i I s Q' E' hv hit hq => ?_) (fun C h hn => ⟨_, hn, fun _ q => nomatch q⟩) (fun C v h e => e.imp fun _ e => e.1) (fun C v h h' e hk => e.imp fun _ e => ⟨e.1.at' hk, e.2⟩) ?_
    (fun own h' tk ho k => zj_start ho k) (fun own i ys t h' tk J k => zj_stable J k) (fun own i ys t J => hl.at fun o e => zj_keep J _ _ e) ?_ ?_
  · obtain ⟨_, _, _, x, _, _, rfl, _⟩ := src' v hv
    exact wpAny_letOwnedTupleGo_listiter hit hq
  · rintro own C v v₀ i ys t Q' E' hv J ⟨m, hn, _⟩ hQ
    have kt := zj_keep J
    obtain ⟨i', va, vb, x, _, _, rfl, hx⟩ := src' v hv
    have hxt : t.heap.IsList x #[va, vb] := hx.at fun o e => kt _ _ e
    rw [assign_Tuple]
    refine wpAny_bind (wpAny_standAt ?_)
    unfold unpack
    have hn2 : (assignEach [.Name a pa, .Name b pb] (compEnvC scope cl C env)).length = (#[va, vb] : Array Value).size := rfl
    have hst2 : (assignEach [.Name a pa, .Name b pb] (compEnvC scope cl C env)).findIdx? (·.1) = none := rfl
    rw [hn2, hst2]
    refine wpAny_bind (wpAny_holding (kun_itemsOf hh hxt fun h₅ he => ?_))
    have he' : Keep t.heap h₅ := fun b o e => he b o (Nat.ne_of_lt (Heap.lt_size e)) e
    refine assignInOrder_cons (wpAny_assign_Name (wpAny_storeName_local (lookup_relabel_local ha) (hn.at' fun o e => he' _ o e) (fun h₆ hn₆ hs₆ => ?_) (by simp [compEnvC, relabel, hkind])))
    refine assignInOrder_cons (wpAny_assign_Name (wpAny_storeName_local (lookup_relabel_local hb) hn₆ (fun h₇ hn₇ hs₇ => ?_) (by simp [compEnvC, relabel, hkind])))
    refine assignInOrder_nil ?_
    refine hQ h₇ _ (fun b o nb e => (hs₇.2 b nb).trans ((hs₆.2 b nb).trans (he' b o e))) ⟨_, hn₇, fun x' q va' vb' hx' => ?_⟩
    have ex : x = x' := by cases q; rfl
    subst ex
    obtain ⟨o1, g1, _, n1, d1⟩ := hx
    obtain ⟨o2, g2, _, n2, d2⟩ := hx'
    rw [g1] at g2; cases g2
    rw [d1] at d2
    have d3 : (#[va, vb] : Array Value) = #[va', vb'] := (Data.seq.inj d2).1
    have d4 : [va, vb] = [va', vb'] := congrArg Array.toList d3
    obtain ⟨rfl, d5⟩ := List.cons.inj d4
    obtain ⟨rfl, _⟩ := List.cons.inj d5
    exact ⟨by rw [if_neg hab, if_pos rfl], by rw [if_pos rfl]⟩
  · rintro own i ys v t C hC hv ⟨ht, tkt, ho, ey, kt, rfl⟩ ⟨m, hn, hm⟩ hex
    have hilt : i < prs.length := by rw [← hlen]; exact (List.getElem?_eq_some_iff.mp hv).1
    obtain ⟨⟨va, vb⟩, hp⟩ : ∃ q, prs[i]? = some q := ⟨_, List.getElem?_eq_getElem hilt⟩
    obtain ⟨x, rfl, hx⟩ := src i v va vb hv hp
    obtain ⟨ma, mb⟩ := hm x rfl va vb hx
    refine wpAny_tests_one (wpAny_mono (tst i va vb C m ht tkt hp kt (ho _ hC) hn ma mb) (fun ok s' h' => ?_) fun _ _ e => e)
    obtain ⟨rfl, h2, tk2, rfl, k2⟩ := h'.of
    cases hpz : pz (va, vb) with
    | false =>
      simp only [Bool.false_eq_true, if_false]
      exact Stop.mk ⟨zj_no ho ey (kt.trans k2) hp hpz, fun b _ o e => k2 b o e⟩
    | true =>
      simp only [if_true]
      refine wpAny_mono (elm i va vb C m h2 tk2 hp hpz (kt.trans k2) (ho _ hC) (hn.at' fun o e => k2 _ _ e) ma mb) (fun y s' h' => ?_) fun _ _ e => e
      obtain ⟨rfl, h3, tk3, rfl, k3⟩ := h'.of
      exact Stop.mk ⟨zj_yes ho ey ((kt.trans k2).trans k3) hp hpz, fun b _ o e => k3 b o (k2 b o e)⟩
  · rintro own D C ys t m hD hC nDC ⟨ht, tkt, ho, ey, kt, rfl⟩ hDs hn
    refine ⟨m, hn, fun h' hs' => ?_⟩
    have kb : Keep s₁.heap h' := fun b o e => (hs'.2 b (fun q => by rw [q, ho _ hC] at e; cases e)).trans (kt b o e)
    refine fin D h' _ kb (ho _ hD) ?_
    rw [hs'.2 D nDC, hDs, ey, hlen, List.take_length]
inductive LcSC (prog : Program) (w : World) (A : Around) (env : Env) (elt : Expr) (x : Str) (ifs : List Expr) (scope : Scope) (cl : List (Str × Addr)) (Q : Value → Shared → Prop) (xv : Value) (s₁ : Shared) : Prop
  | mk  (ax : Addr) (its : List Value) (J : List Addr → Nat → List Value → Shared → Prop) (h1 : xv = .ref ax) (h2 : s₁.heap.IsList ax its.toArray) (h3 : its.length ≤ sizeLine) (h4 : A.handled = none) (h5 : (∀ own h', (∀ a ∈ own, s₁.heap.get? a = none) → Keep s₁.heap h' → J own 0 [] { s₁ with heap := h' })) (h6 : (∀ own i ys s h' tk, J own i ys s → KeepBut own s.heap h' → J own i ys { s with heap := h', toks := tk })) (h7 : (∀ own i ys s, J own i ys s → s.heap.IsList ax its.toArray)) (h8 : (∀ own i ys v s C cr, cr ∈ own → its[i]? = some v → J own i ys s → s.heap.IsCell cr (some v) → (∀ a ∈ own, ∃ o, s.heap.get? a = some o) →
        wpAny (model prog w) A (forIn ifs true fun c r => if r = true then do let ok ← isTrue c (compEnvC scope ((x, cr) :: cl) C env) (eval c (compEnvC scope ((x, cr) :: cl) C env)); pure (ForInStep.yield ok) else pure (ForInStep.yield r)) (fun ok s₃ =>
          if ok = true then wpAny (model prog w) A (eval elt (compEnvC scope ((x, cr) :: cl) C env)) (fun y s₄ => Stop (J own (i + 1) (ys ++ [y]) s₄ ∧ ∀ b ∈ own, ∀ o, s.heap.get? b = some o → s₄.heap.get? b = some o)) (fun _ _ => False) s₃
          else Stop (J own (i + 1) ys s₃ ∧ ∀ b ∈ own, ∀ o, s.heap.get? b = some o → s₃.heap.get? b = some o)) (fun _ _ => False) s)) (h9 : (∀ own D ys s, D ∈ own → J own its.length ys s → s.heap.get? D = some (lst ys) → Q (.ref D) s)) : LcSC prog w A env elt x ifs scope cl Q xv s₁
theorem ListComp_SC {elt iter : Expr} {x : Str} {px : Pos} {ifs : List Expr} {scope : Scope} {cl : List (Str × Addr)} {pos : Pos} {Q : Value → Shared → Prop}
    (hclos : closureFor scope env = pure cl) (hkind : scope.kind = .function) (hnames : ∀ y ∈ scope.names, y.2 = .local → scope.names.lookup y.1 = some .local)
    (hone : ∀ n, cellsFrom n scope.names cl = (x, n) :: cl) (hpush : ∀ h : Heap, pushCells h scope.names = h.push { cls := .type "cell", data := .cell none }) (hxk : ∀ C cr, (compEnvC scope ((x, cr) :: cl) C env).kindOf x = some .cell)
    (h : wpAny (model prog w) A (eval iter env) (fun xv s₁ => Stop (LcSC prog w A env elt x ifs scope cl Q xv s₁)) E s)
    (hs : ∀ x, foldedSetIterable iter env x = pure x := by intro _; rfl) :
    wpAny (model prog w) A (eval (.ListComp elt [⟨.Name x px, iter, ifs, 0⟩] scope pos) env) Q E s := by
  rw [eval_ListComp]
  refine wpAny_comprehension_free (use := none) rfl hs hclos hkind hnames (wpAny_mono h (fun xv s₁ h₁ => ?_) fun _ _ e => e)
  obtain ⟨ax, its, J, rfl, hl, hsz, hh, start, stable, list, turn, fin⟩ := h₁.of
  refine wpAny_pyIter_list hl ?_
  refine wpAny_newObj_type ?_ (by size_fits)
  unfold newFunctionEnv
  refine wpAny_bind (wpAny_alloc ?_)
  refine wpAny_bind (wpAny_layCells _ (fun name kind cells => by cases hkc : kind == NameKind.cell <;> simp [hkc]) _ _ _ _ ?_)
  rw [hone, hpush]
  refine wpAny_bind ?_
  show wpAny _ _ (pure PUnit.unit) _ _ _
  refine wpAny_pure (wpAny_pure ?_)
  simp only [Option.isSome_some, if_true]
  generalize hIo : ({ cls := .type "list_iterator", data := .fields #[.ref ax, .int 0 0] } : Obj) = oI
  generalize hDo : ({ cls := .type "list", dict := none, data := .seq ([] : List Value).toArray } : Obj) = oD
  generalize hI : s₁.heap.objs.size = I
  generalize hD : (s₁.heap.push oI).objs.size = D
  generalize hC : ((s₁.heap.push oI).push oD).objs.size = C
  generalize hh₄ : ((s₁.heap.push oI).push oD).push { cls := .type "dict", data := .dict #[] } = h₄
  generalize hr : h₄.objs.size = cr
  have eD : D = I + 1 := by rw [← hD, Heap.size_push, hI]
  have eC : C = I + 2 := by rw [← hC, Heap.size_push, hD, eD]
  have er : cr = I + 3 := by rw [← hr, ← hh₄, Heap.size_push, hC, eC]
  generalize hh₅ : h₄.push { cls := .type "cell", data := .cell none } = h₅
  have k1 : Keep s₁.heap (s₁.heap.push oI) := fun b o e => Heap.get?_push_of_some _ e
  have k2 : Keep (s₁.heap.push oI) ((s₁.heap.push oI).push oD) := fun b o e => Heap.get?_push_of_some _ e
  have k3 : Keep ((s₁.heap.push oI).push oD) h₄ := fun b o e => by rw [← hh₄]; exact Heap.get?_push_of_some _ e
  have k4 : Keep h₄ h₅ := fun b o e => by rw [← hh₅]; exact Heap.get?_push_of_some _ e
  have kp : Keep s₁.heap h₅ := ((k1.trans k2).trans k3).trans k4
  have gI : h₅.get? I = some oI := k4 _ _ (k3 _ _ (k2 _ _ (by rw [← hI]; exact Heap.get?_push_size _ (by rw [← hIo]; rfl))))
  have gD : h₅.get? D = some oD := k4 _ _ (k3 _ _ (by rw [← hD]; exact Heap.get?_push_size _ (by rw [← hDo]; rfl)))
  have gC : h₅.Ns C (fun _ => none) := by
    have : h₄.Ns C (fun _ => none) := by rw [← hh₄, ← hC]; exact Heap.Ns.new _ (.type "dict")
    exact this.keeps k4
  have gr : h₅.IsCell cr none := by rw [← hh₅, ← hr]; exact ⟨_, Heap.get?_push_size _ rfl, rfl⟩
  have free : ∀ a, I ≤ a → s₁.heap.get? a = none := fun a ha => by
    cases e : s₁.heap.get? a with
    | none => rfl
    | some o => exact absurd (Heap.lt_size e) (by rw [hI]; exact Nat.not_lt.mpr ha)
  have hax : ax < I := by obtain ⟨_, e, _⟩ := hl; rw [← hI]; exact Heap.lt_size e
  have nID : @Ne Nat I D := ar_ne 0 eD
  have nIC : @Ne Nat I C := ar_ne 1 eC
  have nIr : @Ne Nat I cr := ar_ne 2 er
  have nDC : @Ne Nat D C := ar_ne 0 (by rw [eC, eD])
  have nDr : @Ne Nat D cr := ar_ne 1 (by rw [er, eD])
  have nCr : @Ne Nat C cr := ar_ne 0 (by rw [er, eC])
  have nax : @Ne Nat ax I := Nat.ne_of_lt hax
  have own0 : ∀ a ∈ [I, D, C, cr], s₁.heap.get? a = none := fun a ha => by
    simp only [List.mem_cons, List.not_mem_nil, or_false] at ha
    rcases ha with rfl | rfl | rfl | rfl
    · exact free _ (Nat.le_refl _)
    · exact free _ (by rw [eD]; exact Nat.le_add_right _ _)
    · exact free _ (by rw [eC]; exact Nat.le_add_right _ _)
    · exact free _ (by rw [er]; exact Nat.le_add_right _ _)
  have hit : h₅.IsListIter I ax 0 := ⟨oI, gI, by subst hIo; rfl, by subst hIo; rfl⟩
  have hcr : cr ∈ [I, D, C, cr] := .tail _ (.tail _ (.tail _ (.head _)))
  have hCm : C ∈ [I, D, C, cr] := .tail _ (.tail _ (.head _))
  have hDm : D ∈ [I, D, C, cr] := .tail _ (.head _)
  have loop : codeAny (model prog w) A (.compLoop (.ListComp elt [⟨.Name x px, iter, ifs, 0⟩] scope pos) 0 (.ref I) (.ref D) (compEnvC scope ((x, cr) :: cl) C env)) (compPost (model prog w) A E none Q (.ref D) C)
      { s₁ with heap := h₅ } := by
    refine compLoop_J (ax := ax) (its := its) hh [I, D, C, cr] (.head _) hDm nID nax (fun v i s Q' E' _ _ hq => wpAny_of_eq (by rfl) hq) (fun v h => h.IsCell cr v ∧ ∃ m, h.Ns C m) ?_ (J [I, D, C, cr]) ?_ (stable _) (list _) ?_ hsz ?_ (start _ h₅ own0 kp) (by rw [gD, ← hDo]; rfl) hit none ⟨gr, _, gC⟩
    · rintro v h h' ⟨⟨o, e, hd⟩, m, hn⟩ hk
      exact ⟨⟨o, hk cr hcr nIr.symm nDr.symm o e, hd⟩, m, hn.at' fun o e => hk C hCm nIC.symm nDC.symm o e⟩
    · rintro v v₀ i ys s Q' E' _ _ ⟨hc, m, hn⟩ hQ
      refine wpAny_assign_Name (wpAny_storeName_cell hkind (hxk C cr) (by show List.lookup x ((x, cr) :: cl) = _; rw [List.lookup_cons, beq_self_eq_true]) hc fun h' hc' hs' => ?_)
      refine hQ h' s.toks (fun b o hb e => (hs'.2 b ?_).trans e) ⟨hc', m, hn.at' fun o e => (hs'.2 C nCr).trans e⟩
      rcases hb with hb | rfl | rfl
      · exact fun q => hb (q ▸ hcr)
      · exact nIr
      · exact nDr
    · rintro i ys v s hv hJ ⟨hc, m, hn⟩ hex
      refine wpAny_mono (turn _ i ys v s C cr hcr hv hJ hc fun a ha => ?_) (fun ok s₃ h₃ => ?_) fun _ _ e => e
      rotate_left
      · cases ok with
        | false => simp only [Bool.false_eq_true, if_false] at h₃ ⊢; exact h₃.of
        | true => simp only [if_true] at h₃ ⊢; exact wpAny_mono h₃ (fun _ _ e => e.of) fun _ _ e => e
      simp only [List.mem_cons, List.not_mem_nil, or_false] at ha
      rcases ha with rfl | rfl | rfl | rfl
      · exact hex _ (.head _)
      · exact hex _ (.tail _ (.head _))
      · obtain ⟨o, _, _, e, _⟩ := hn; exact ⟨o, e⟩
      · obtain ⟨o, e, _⟩ := hc; exact ⟨o, e⟩
    · rintro ys s v₀ hJ hDs ⟨_, m, hn⟩
      refine ⟨m, hn, fun h' hs' => fin _ D ys _ hDm (stable _ _ _ s h' s.toks hJ fun b o hb e => (hs'.2 b fun q => hb (q ▸ hCm)).trans e) ((hs'.2 D nDC).trans hDs)⟩
  have W := Walks.list (prog := prog) (w := w) hh I ax nax its.toArray
  exact codeAny_compStart_list loop (W.self 0 _ _ _ ⟨hit, hl.at fun o e => kp _ _ e⟩ loop)
end
end Mine
end
section
open PySem PySem.W PyProof.Rows PySem.Calls
open PyProof.Rows.LCg
namespace Mine
section
variable {prog : Program} {w : World} {A : Around} {E : Value → Shared → Prop} {s : Shared} {env : Env}
theorem zj_turn {α : Type} {elt : Expr} {ifs : List Expr} {x : Str} {scope : Scope} {cl : List (Str × Addr)} {s₁ : Shared} {xs : List α} {g : α → Value} {pz : α → Bool} {f : α → Value}
    (tst : ∀ (i : Nat) (v : α) C m₂ h tk, xs[i]? = some v → Keep s₁.heap h → s₁.heap.get? C = none → h.Ns C m₂ → m₂ x = some (g v) →
        wpAny (model prog w) A (forIn ifs true fun c r => if r = true then do let ok ← isTrue c (compEnvC scope cl C env) (eval c (compEnvC scope cl C env)); pure (ForInStep.yield ok) else pure (ForInStep.yield r)) (fun ok s' => ok = pz v ∧ ∃ h' tk', s' = { s₁ with heap := h', toks := tk' } ∧ Keep h h') (fun _ _ => False) { s₁ with heap := h, toks := tk })
    (elm : ∀ (i : Nat) (v : α) C m₂ h tk, xs[i]? = some v → pz v = true → Keep s₁.heap h → s₁.heap.get? C = none → h.Ns C m₂ → m₂ x = some (g v) →
        wpAny (model prog w) A (eval elt (compEnvC scope cl C env)) (fun y s' => Stop (y = f v ∧ ∃ h' tk', s' = { s₁ with heap := h', toks := tk' } ∧ Keep h h')) (fun _ _ => False) { s₁ with heap := h, toks := tk })
    (own : List Addr) (i : Nat) (ys : List Value) (v0 : Value) (t : Shared) (C : Addr) (m₂ : Str → Option Value) (hC : C ∈ own) (hv0 : (xs.map g)[i]? = some v0) (J : ZJ s₁ xs pz f own i ys t) (hn : t.heap.Ns C m₂) (hm : m₂ x = some v0) (_ : ∀ a ∈ own, ∃ o, t.heap.get? a = some o) :
        wpAny (model prog w) A (forIn ifs true fun c r => if r = true then do let ok ← isTrue c (compEnvC scope cl C env) (eval c (compEnvC scope cl C env)); pure (ForInStep.yield ok) else pure (ForInStep.yield r)) (fun ok s₃ =>
          if ok = true then wpAny (model prog w) A (eval elt (compEnvC scope cl C env)) (fun y s₄ => Stop (ZJ s₁ xs pz f own (i + 1) (ys ++ [y]) s₄ ∧ ∀ b ∈ own, ∀ o, t.heap.get? b = some o → s₄.heap.get? b = some o)) (fun _ _ => False) s₃
          else Stop (ZJ s₁ xs pz f own (i + 1) ys s₃ ∧ ∀ b ∈ own, ∀ o, t.heap.get? b = some o → s₃.heap.get? b = some o)) (fun _ _ => False) t := by
  obtain ⟨ht, tkt, ho, ey, kt, rfl⟩ := J
  rw [List.getElem?_map] at hv0
  obtain ⟨v, hv, rfl⟩ := Option.map_eq_some_iff.mp hv0
  refine wpAny_mono (tst i v C m₂ ht tkt hv kt (ho _ hC) hn hm) (fun ok s' h' => ?_) fun _ _ e => e
  obtain ⟨rfl, h2, tk2, rfl, k2⟩ := h'
  cases hpz : pz v with
  | false =>
    simp only [Bool.false_eq_true, if_false]
    exact Stop.mk ⟨zj_no ho ey (kt.trans k2) hv hpz, fun b _ o e => k2 b o e⟩
  | true =>
    simp only [if_true]
    refine wpAny_mono (elm i v C m₂ h2 tk2 hv hpz (kt.trans k2) (ho _ hC) (hn.keeps k2) hm) (fun y s' h' => ?_) fun _ _ e => e
    obtain ⟨rfl, h3, tk3, rfl, k3⟩ := h'.of
    exact Stop.mk ⟨zj_yes ho ey ((kt.trans k2).trans k3) hv hpz, fun b _ o e => k3 b o (k2 b o e)⟩
inductive LcZ (α : Type) (prog : Program) (w : World) (A : Around) (env : Env) (elt : Expr) (x : Str) (ifs : List Expr) (scope : Scope) (cl : List (Str × Addr)) (Q : Value → Shared → Prop) (xv : Value) (s₁ : Shared) : Prop
  | mk  (ax : Addr) (xs : List α) (g : α → Value) (pz : α → Bool) (f : α → Value) (h1 : xv = .ref ax) (h2 : s₁.heap.IsList ax (xs.map g).toArray) (h3 : xs.length ≤ sizeLine) (h4 : A.handled = none) (h5 : (∀ (i : Nat) (v : α) C m₂ h tk, xs[i]? = some v → Keep s₁.heap h → s₁.heap.get? C = none → h.Ns C m₂ → m₂ x = some (g v) →
        wpAny (model prog w) A (forIn ifs true fun c r => if r = true then do let ok ← isTrue c (compEnvC scope cl C env) (eval c (compEnvC scope cl C env)); pure (ForInStep.yield ok) else pure (ForInStep.yield r)) (fun ok s' => ok = pz v ∧ ∃ h' tk', s' = { s₁ with heap := h', toks := tk' } ∧ Keep h h') (fun _ _ => False) { s₁ with heap := h, toks := tk })) (h6 : (∀ (i : Nat) (v : α) C m₂ h tk, xs[i]? = some v → pz v = true → Keep s₁.heap h → s₁.heap.get? C = none → h.Ns C m₂ → m₂ x = some (g v) →
        wpAny (model prog w) A (eval elt (compEnvC scope cl C env)) (fun y s' => Stop (y = f v ∧ ∃ h' tk', s' = { s₁ with heap := h', toks := tk' } ∧ Keep h h')) (fun _ _ => False) { s₁ with heap := h, toks := tk })) (h7 : (∀ D h' tk, Keep s₁.heap h' → s₁.heap.get? D = none → h'.get? D = some (lst ((xs.filter pz).map f)) → Q (.ref D) { s₁ with heap := h', toks := tk })) : LcZ α prog w A env elt x ifs scope cl Q xv s₁
theorem ListComp_Z {α : Type} {elt iter : Expr} {ifs : List Expr} {x : Str} {px : Pos} {scope : Scope} {cl : List (Str × Addr)} {pos : Pos} {Q : Value → Shared → Prop}
    (hclos : closureFor scope env = pure cl) (hcell : ∀ y ∈ scope.names, y.2 ≠ .cell) (hkind : scope.kind = .function) (hnames : ∀ y ∈ scope.names, y.2 = .local → scope.names.lookup y.1 = some .local) (hx : scope.names.lookup x = some .local)
    (h : wpAny (model prog w) A (eval iter env) (fun xv s₁ => Stop (LcZ α prog w A env elt x ifs scope cl Q xv s₁)) E s)
    (hs : ∀ x, foldedSetIterable iter env x = pure x := by intro _; rfl) :
    wpAny (model prog w) A (eval (.ListComp elt [⟨.Name x px, iter, ifs, 0⟩] scope pos) env) Q E s := by
  refine ListComp_N hclos hcell hkind hnames hx (wpAny_mono h (fun xv s₁ h₁ => ?_) fun _ _ e => e) hs
  obtain ⟨ax, xs, g, pz, f, rfl, hl, hsz, hh, tst, elm, fin⟩ := h₁.of
  refine Stop.mk ⟨ax, xs.map g, ZJ s₁ xs pz f, rfl, hl, by rw [List.length_map]; exact hsz, hh, fun own h' tk ho k => zj_start ho k, fun own i ys t h' tk J k => zj_stable J k, fun own i ys t J => hl.at fun o e => zj_keep J _ _ e, zj_turn tst elm, ?_⟩
  · rintro own D ys t hD ⟨ht, tkt, ho, ey, kt, rfl⟩ e
    rw [ey, List.length_map, List.take_length] at e
    exact fin D ht tkt kt (ho _ hD) e
inductive AsZ (α : Type) (prog : Program) (w : World) (A : Around) (env : Env) (elt : Expr) (x y : Str) (ifs : List Expr) (scope : Scope) (cl : List (Str × Addr)) (Q : Flow → Shared → Prop) (xv : Value) (s₁ : Shared) : Prop
  | mk  (ax : Addr) (xs : List α) (g : α → Value) (pz : α → Bool) (f : α → Value) (m : Str → Option Value) (h1 : xv = .ref ax) (h2 : s₁.heap.Ns env.locals m) (h3 : s₁.heap.IsList ax (xs.map g).toArray) (h4 : xs.length ≤ sizeLine) (h5 : A.handled = none) (h6 : (∀ (i : Nat) (v : α) C m₂ h tk, xs[i]? = some v → Keep s₁.heap h → s₁.heap.get? C = none → h.Ns C m₂ → m₂ x = some (g v) →
        wpAny (model prog w) A (forIn ifs true fun c r => if r = true then do let ok ← isTrue c (compEnvC scope cl C env) (eval c (compEnvC scope cl C env)); pure (ForInStep.yield ok) else pure (ForInStep.yield r)) (fun ok s' => ok = pz v ∧ ∃ h' tk', s' = { s₁ with heap := h', toks := tk' } ∧ Keep h h') (fun _ _ => False) { s₁ with heap := h, toks := tk })) (h7 : (∀ (i : Nat) (v : α) C m₂ h tk, xs[i]? = some v → pz v = true → Keep s₁.heap h → s₁.heap.get? C = none → h.Ns C m₂ → m₂ x = some (g v) →
        wpAny (model prog w) A (eval elt (compEnvC scope cl C env)) (fun y s' => Stop (y = f v ∧ ∃ h' tk', s' = { s₁ with heap := h', toks := tk' } ∧ Keep h h')) (fun _ _ => False) { s₁ with heap := h, toks := tk })) (h8 : (∀ D h' tk, (∀ b o, b ≠ env.locals → s₁.heap.get? b = some o → h'.get? b = some o) → s₁.heap.get? D = none → h'.get? D = some (lst ((xs.filter pz).map f)) → h'.Ns env.locals (fun z => if z = y then some (.ref D) else m z) → Q .next { s₁ with heap := h', toks := tk })) : AsZ α prog w A env elt x y ifs scope cl Q xv s₁
theorem Assign_ListComp_Z {α : Type} {elt iter : Expr} {ifs : List Expr} {x y : Str} {px py : Pos} {scope : Scope} {cl : List (Str × Addr)} {pos spos : Pos} {Q : Flow → Shared → Prop}
    (hsw : swapsWith (.ListComp elt [⟨.Name x px, iter, ifs, 0⟩] scope pos) (some (.Name y py)) spos.line env = pure true)
    (hclos : closureFor scope env = pure cl) (hcell : ∀ y ∈ scope.names, y.2 ≠ .cell) (hkind : scope.kind = .function) (hnames : ∀ y ∈ scope.names, y.2 = .local → scope.names.lookup y.1 = some .local) (hx : scope.names.lookup x = some .local)
    (hy : env.kindOf y = some .local) (hp : (env.scope.kind == .class || (env.scope.kind == .module && env.locals != env.globals)) = false)
    (h : wpAny (model prog w) A (eval iter env) (fun xv s₁ => Stop (AsZ α prog w A env elt x y ifs scope cl Q xv s₁)) E s)
    (hs : ∀ x, foldedSetIterable iter env x = pure x := by intro _; rfl) :
    wpAny (model prog w) A (exec (.Assign [.Name y py] (.ListComp elt [⟨.Name x px, iter, ifs, 0⟩] scope pos) spos) env) Q E s := by
  refine Assign_ListComp_N hsw hclos hcell hkind hnames hx hy hp (wpAny_mono h (fun xv s₁ h₁ => ?_) fun _ _ e => e) hs
  obtain ⟨ax, xs, g, pz, f, mL, rfl, hnL, hl, hsz, hh, tst, elm, fin⟩ := h₁.of
  refine Stop.mk ⟨ax, xs.map g, ZJ s₁ xs pz f, rfl, hl, by rw [List.length_map]; exact hsz, hh, fun own h' tk ho k => zj_start ho k, fun own i ys t h' tk J k => zj_stable J k, fun own i ys t J => hl.at fun o e => zj_keep J _ _ e, zj_turn tst elm, ?_⟩
  · rintro own D ys t hD ⟨ht, tkt, ho, ey, kt, rfl⟩ e
    rw [ey, List.length_map, List.take_length] at e
    have hLo : env.locals ∉ own := fun q => by obtain ⟨o, _, _, e, _⟩ := hnL; rw [ho _ q] at e; cases e
    refine ⟨mL, hLo, hnL.keeps kt, fun h' tk hn kb => fin D h' tk (fun b o hb e => ?_) (ho _ hD) (kb D _ (fun q => hLo (q ▸ hD)) (.inr rfl) e) hn⟩
    exact kb b o hb (.inl fun q => by rw [ho _ q] at e; cases e) (kt b o e)
theorem tests_none {f : Expr → Bool → Sem (ForInStep Bool)} {Q : Bool → Shared → Prop} (h : Q true s) : wpAny (model prog w) A (forIn ([] : List Expr) true f) Q E s := wpAny_pure h
end
end Mine
end
section
open PySem PySem.W PyProof.Rows PySem.Calls
namespace Mine
noncomputable def vals (l : List (Str × Tok)) : List Value := l.map fun p => .str p.1 p.2
theorem vals_any (l : List (Str × Tok)) (a : Str) (f : Value → Bool) (hf : ∀ b t, f (.str b t) = (b == a)) : (vals l).any f = decide (a ∈ l.map (·.1)) := by
  rw [Bool.eq_iff_iff, List.any_eq_true, decide_eq_true_eq]
  constructor
  · rintro ⟨v, hv, e⟩
    obtain ⟨p, hp, rfl⟩ := List.mem_map.mp hv
    rw [hf] at e
    have : p.1 = a := by simpa using e
    exact this ▸ List.mem_map_of_mem hp
  · intro h
    obtain ⟨p, hp, rfl⟩ := List.mem_map.mp h
    exact ⟨.str p.1 p.2, List.mem_map.mpr ⟨p, hp, rfl⟩, by rw [hf]; simp⟩
noncomputable def isStr (a : Str) : Value → Bool | .str b _ => b == a | _ => false
section
variable {prog : Program} {w : World} {A : Around} {E : Value → Shared → Prop} {s : Shared}
theorem strs_gives {l : List (Str × Tok)} {a : Str} {t : Tok} : ∀ y, y ∈ (vals l).toArray → MeetsSeq.EqGives y (.str a t) (isStr a y) := fun y hy => by
  have hy' : y ∈ vals l := by simpa using hy
  obtain ⟨p, _, rfl⟩ := List.mem_map.mp hy'
  exact eqGives_str p.1 a p.2 t
theorem in_strs {D : Addr} {l : List (Str × Tok)} {n : Nat} {a : Str} {t : Tok} {Q : Value → Shared → Prop} (e : s.heap.get? D = some (listOf (vals l).toArray n)) (h : Q (.bool (decide (a ∈ l.map (·.1)))) s) :
    wpAny (model prog w) A (compareOp .In (.str a t) (.ref D)) Q E s :=
  SeqInW.in_listW (isStr a) strs_gives ⟨_, e, rfl, _, rfl⟩ (by rw [← Array.any_toList, List.toList_toArray, vals_any l a _ fun _ _ => rfl]; exact h)
theorem notIn_strs {D : Addr} {l : List (Str × Tok)} {n : Nat} {a : Str} {t : Tok} {Q : Value → Shared → Prop} (e : s.heap.get? D = some (listOf (vals l).toArray n)) (h : Q (.bool (!decide (a ∈ l.map (·.1)))) s) :
    wpAny (model prog w) A (compareOp .NotIn (.str a t) (.ref D)) Q E s :=
  SeqInW.notIn_listW (isStr a) strs_gives ⟨_, e, rfl, _, rfl⟩ (by rw [← Array.any_toList, List.toList_toArray, vals_any l a _ fun _ _ => rfl]; exact h)
end
structure PairR where
  x : Addr
  n1 : Str
  n2 : Str
  k1 : Tok
  k2 : Tok
  c : Nat
noncomputable def PairR.ob (p : PairR) : Obj := listOf #[.str p.n1 p.k1, .str p.n2 p.k2] p.c
noncomputable def PairR.pr (p : PairR) : Str × Str := (p.n1, p.n2)
noncomputable def addN (acc : List Str) (b : Str) : List Str := if b ∈ acc then acc else acc ++ [b]
noncomputable def nearStep (ps : List (Str × Str)) (near : List Str) : List Str := ((ps.filter fun p => decide (p.1 ∈ near)).map (·.2)).foldl addN near
noncomputable def nearN (ps : List (Str × Str)) : Nat → List Str → List Str
  | 0, near => near
  | k + 1, near => nearStep ps (nearN ps k near)
theorem addN_nodup {acc : List Str} {b : Str} (h : acc.Nodup) : (addN acc b).Nodup := by
  unfold addN
  split
  · exact h
  · rename_i hb
    exact List.nodup_append.mpr ⟨h, by simp, fun x hx y hy e => hb (by rw [List.mem_singleton.mp hy] at e; exact e ▸ hx)⟩
theorem mem_addN {acc : List Str} {b c : Str} : c ∈ addN acc b ↔ c ∈ acc ∨ c = b := by
  unfold addN
  split
  · rename_i hb
    exact ⟨.inl, fun h => h.elim id fun e => e ▸ hb⟩
  · rw [List.mem_append, List.mem_singleton]
theorem fold_addN (bs : List Str) : ∀ (acc : List Str), acc.Nodup → (bs.foldl addN acc).Nodup ∧ ∀ c, c ∈ bs.foldl addN acc ↔ c ∈ acc ∨ c ∈ bs := by
  induction bs with
  | nil => intro acc h; exact ⟨h, fun c => by simp⟩
  | cons b bs ih =>
    intro acc h
    obtain ⟨i1, i2⟩ := ih (addN acc b) (addN_nodup h)
    refine ⟨i1, fun c => ?_⟩
    rw [List.foldl_cons, i2, mem_addN, List.mem_cons, or_assoc]
theorem nodup_len' {α : Type} [DecidableEq α] : ∀ (l U : List α), l.Nodup → (∀ x ∈ l, x ∈ U) → l.length ≤ U.length
  | [], _, _, _ => Nat.zero_le _
  | x :: l, U, hn, hs => by
    have hx := hs x (.head _)
    have := nodup_len' l (U.erase x) (List.nodup_cons.mp hn).2 fun y hy => (List.mem_erase_of_ne (a := y) (b := x) (fun e => (List.nodup_cons.mp hn).1 (by rw [← e]; exact hy))).mpr (hs y (.tail _ hy))
    rw [List.length_erase_of_mem hx] at this
    have : U.length ≠ 0 := fun e => by rw [List.length_eq_zero_iff.mp e] at hx; cases hx
    rw [List.length_cons]; exact ar_pred (by assumption) (by assumption)
theorem nearN_ok (ps : List (Str × Str)) (name : Str) : ∀ k, (nearN ps k [name]).Nodup ∧ ∀ c ∈ nearN ps k [name], c = name ∨ c ∈ ps.map (·.2)
  | 0 => ⟨by simp [nearN], fun c hc => .inl (by simpa [nearN] using hc)⟩
  | k + 1 => by
    obtain ⟨i1, i2⟩ := nearN_ok ps name k
    obtain ⟨f1, f2⟩ := fold_addN ((ps.filter fun p => decide (p.1 ∈ nearN ps k [name])).map (·.2)) _ i1
    refine ⟨f1, fun c hc => ?_⟩
    rcases (f2 c).mp hc with h | h
    · exact i2 c h
    · obtain ⟨p, hp, rfl⟩ := List.mem_map.mp h
      exact .inr (List.mem_map_of_mem (List.mem_filter.mp hp).1)
theorem near_len {ps : List (Str × Str)} {name : Str} {acc : List Str} (hn : acc.Nodup) (h : ∀ c ∈ acc, c = name ∨ c ∈ ps.map (·.2)) : acc.length ≤ ps.length + 1 := by
  have := nodup_len' acc (name :: ps.map (·.2)) hn fun c hc => by
    rcases h c hc with rfl | h
    · exact .head _
    · exact .tail _ h
  rw [List.length_cons, List.length_map] at this; exact this
end Mine
namespace Mine
theorem Fr.canon2 {g h : Heap} {L : Addr} {m m0 : Str → Option Value} {a b : Str} (F : Fr g L h m) (hm : ∀ z, z ≠ a → z ≠ b → m z = m0 z) : Fr g L h (fun z => if z = a then m a else if z = b then m b else m0 z) := by
  have e : m = fun z => if z = a then m a else if z = b then m b else m0 z := funext fun z => by
    by_cases h1 : z = a
    · rw [if_pos h1, h1]
    · by_cases h2 : z = b
      · rw [if_neg h1, if_pos h2, h2]
      · rw [if_neg h1, if_neg h2, hm z h1 h2]
  exact e ▸ F
inductive NearJ (g : Heap) (L' D : Addr) (m0 : Str → Option Value) (s : Shared) (led : List (Addr × Obj)) (fact : List Str → Nat → Prop) (I : Addr) (i : Nat) (t : Shared) : Prop
  | mk  (o1 o2 : Option Value) (nv : List (Str × Tok)) (n : Nat) (h1 : @Ne Nat I L') (h2 : g.get? I = none) (h3 : @Ne Nat I D) (h4 : (∀ p ∈ led, @Ne Nat p.1 I)) (h5 : Fr g L' t.heap (fun z => if z = ("_" : Str) then o1 else if z = ("role" : Str) then o2 else m0 z)) (h6 : News g L' t.heap ((D, listOf (vals nv).toArray n) :: led)) (h7 : fact (nv.map (·.1)) i) (h8 : ∃ hh tk, t = { s with heap := hh, toks := tk }) : NearJ g L' D m0 s led fact I i t
section
variable {g h : Heap} {L' D : Addr} {m0 m : Str → Option Value} {s t : Shared} {led : List (Addr × Obj)} {fact : List Str → Nat → Prop} {I : Addr} {i tk : Nat}
theorem nj_start {nv : List (Str × Tok)} {n : Nat} (F : Fr g L' t.heap m) (hm : ∀ z, z ≠ ("_" : Str) → z ≠ ("role" : Str) → m z = m0 z) (N : News g L' t.heap ((D, listOf (vals nv).toArray n) :: led)) (hf : fact (nv.map (·.1)) i) (ht : ∃ hh tk, t = { s with heap := hh, toks := tk })
    (hI : t.heap.get? I = none) (k : Keep t.heap h) : NearJ g L' D m0 s led fact I i { t with heap := h } := by
  have off := fresh_off N hI
  obtain ⟨_, _, rfl⟩ := ht
  exact ⟨m "_", m "role", nv, n, Fr.neOf F hI, none_of_keep F.keep hI, Ne.symm off.1, fun p hp => off1_all off.2 p hp, Fr.canon2 (F.keeps k) hm, N.grown k, hf, _, _, rfl⟩
theorem nj_stable (J : NearJ g L' D m0 s led fact I i t) (k : KeepBut [I] t.heap h) : NearJ g L' D m0 s led fact I i { t with heap := h, toks := tk } := by
  obtain ⟨o1, o2, nv, n, i1, i2, i3, i4, F, N, hf, _, _, rfl⟩ := J
  refine ⟨o1, o2, nv, n, i1, i2, i3, i4, Fr.but F k (notin1 (Ne.symm i1)) (fun a ha => by rw [List.mem_singleton.mp ha]; exact i2), News.but N k ?_, hf, _, _, rfl⟩
  intro p hp
  refine memc hp ?_ fun hp => ?_
  · exact notin1 (Ne.symm i3)
  · exact notin1 (i4 p hp)
end
end Mine
namespace Mine
section
variable {g h : Heap} {L' D : Addr} {m0 m : Str → Option Value} {s t : Shared} {led : List (Addr × Obj)} {fact : List Str → Nat → Prop} {I : Addr} {i tk : Nat}
theorem nj_start2 {v o1 o2 : Option Value} {nv : List (Str × Tok)} {n : Nat} (F : Fr g L' t.heap (fun y => if y = ("_" : Str) then v else if y = ("_" : Str) then o1 else if y = ("role" : Str) then o2 else m0 y)) (N : News g L' t.heap ((D, listOf (vals nv).toArray n) :: led)) (hf : fact (nv.map (·.1)) i) (ht : ∃ hh tk, t = { s with heap := hh, toks := tk })
    (hI : t.heap.get? I = none) (k : Keep t.heap h) : NearJ g L' D m0 s led fact I i { t with heap := h } := nj_start F (fun z h1 h2 => by simp only [if_neg h1, if_neg h2]) N hf ht hI k
theorem nj_end {v o1 o2 : Option Value} {nv : List (Str × Tok)} {n : Nat} {oI : Obj} {h9 : Heap} (i1 : @Ne Nat I L') (i2 : g.get? I = none) (i3 : @Ne Nat I D) (i4 : ∀ p ∈ led, @Ne Nat p.1 I) (eI : h9.get? I = some oI)
    (F : Fr g L' t.heap (fun y => if y = ("role" : Str) then v else if y = ("_" : Str) then o1 else if y = ("role" : Str) then o2 else m0 y)) (N : News g L' t.heap ((D, listOf (vals nv).toArray n) :: (I, oI) :: led)) (hf : fact (nv.map (·.1)) i) (ht : ∃ hh tk, t = { s with heap := hh, toks := tk }) :
    Stop (NearJ g L' D m0 s led fact I i t ∧ ∀ o, h9.get? I = some o → t.heap.get? I = some o) := by
  refine Stop.mk ⟨⟨_, _, nv, n, i1, i2, i3, i4, Fr.canon2 F (fun z h1 h2 => by simp only [if_neg h1, if_neg h2]), newsSub N fun p hp => ?_, hf, ht⟩, fun o q => ?_⟩
  · refine memc hp ?_ fun hp => ?_
    · exact .head _
    · exact .tail _ (.tail _ hp)
  · rw [eI] at q; cases q
    exact (N _ (.tail _ (.head _))).1
theorem nj_end2 {o1 o2 : Option Value} {nv : List (Str × Tok)} {n : Nat} {oI : Obj} {h9 : Heap} (i1 : @Ne Nat I L') (i2 : g.get? I = none) (i3 : @Ne Nat I D) (i4 : ∀ p ∈ led, @Ne Nat p.1 I) (eI : h9.get? I = some oI)
    (F : Fr g L' t.heap (fun y => if y = ("_" : Str) then o1 else if y = ("role" : Str) then o2 else m0 y)) (N : News g L' t.heap ((D, listOf (vals nv).toArray n) :: (I, oI) :: led)) (hf : fact (nv.map (·.1)) i) (ht : ∃ hh tk, t = { s with heap := hh, toks := tk }) :
    Stop (NearJ g L' D m0 s led fact I i t ∧ ∀ o, h9.get? I = some o → t.heap.get? I = some o) := by
  refine Stop.mk ⟨⟨o1, o2, nv, n, i1, i2, i3, i4, F, newsSub N fun p hp => ?_, hf, ht⟩, fun o q => ?_⟩
  · refine memc hp ?_ fun hp => ?_
    · exact .head _
    · exact .tail _ (.tail _ hp)
  · rw [eI] at q; cases q
    exact (N _ (.tail _ (.head _))).1
end
theorem vals_push (l : List (Str × Tok)) (b : Str) (t : Tok) : (vals l).toArray.push (.str b t) = (vals (l ++ [(b, t)])).toArray := by simp [vals]
theorem vals_len (l : List (Str × Tok)) : (vals l).length = l.length := List.length_map ..
noncomputable def strIn (near : List Str) : Value → Bool | .str a _ => decide (a ∈ near) | _ => false
theorem comp_vals (ls : List PairR) (nv : List (Str × Tok)) : (((ls.map fun l => (Value.str l.n1 l.k1, Value.str l.n2 l.k2)).filter fun p => strIn (nv.map (·.1)) p.1).map (·.2)) =
    vals ((ls.filter fun l => decide (l.n1 ∈ nv.map (·.1))).map fun l => (l.n2, l.k2)) := by
  unfold vals
  rw [List.filter_map, List.map_map, List.map_map]
  rfl
theorem comp_names (ls : List PairR) (near : List Str) : (((ls.filter fun l => decide (l.n1 ∈ near)).map fun l => (l.n2, l.k2)).map (·.1)) = ((ls.map PairR.pr).filter fun p => decide (p.1 ∈ near)).map (·.2) := by
  rw [List.filter_map, List.map_map, List.map_map]
  rfl
end Mine
end
section
open PySem PySem.W PyProof.Rows PySem.Calls PySem.Spec
namespace Mine
noncomputable def leS (a b : Str) : Prop := ltCps b.cps.toList a.cps.toList = false
theorem leS_iff {a b : Str} : leS a b ↔ a.cps.toList ≤ b.cps.toList := by
  unfold leS
  rw [ltCps_eq, decide_eq_false_iff_not]
  exact List.not_lt
theorem leS_trans {a b c : Str} (x : leS a b) (y : leS b c) : leS a c := leS_iff.mpr (List.le_trans (leS_iff.mp x) (leS_iff.mp y))
theorem leS_anti {a b : Str} (x : leS a b) (y : leS b a) : a = b := by
  have := List.le_antisymm (leS_iff.mp x) (leS_iff.mp y)
  cases a; cases b
  simp only [Str.mk.injEq] at *
  exact Array.ext' this
theorem rising_pw : ∀ (l : List Str) (p : Str), risingS p l = true → (∀ x ∈ l, leS p x) ∧ l.Pairwise leS
  | [], _, _ => ⟨fun _ h => (nomatch h), List.Pairwise.nil⟩
  | x :: r, p, h => by
    unfold risingS at h
    have h1 : leS p x := by
      cases e : ltCps x.cps.toList p.cps.toList with
      | false => exact e
      | true => rw [e] at h; simp at h
    have h2 : risingS x r = true := by
      rw [show ltCps x.cps.toList p.cps.toList = false from h1] at h
      simpa using h
    obtain ⟨i1, i2⟩ := rising_pw r x h2
    refine ⟨fun y hy => ?_, List.pairwise_cons.mpr ⟨i1, i2⟩⟩
    rcases List.mem_cons.mp hy with rfl | hy
    · exact h1
    · exact leS_trans h1 (i1 y hy)
theorem sorted_pw {l : List Str} (h : sortedS l = true) : l.Pairwise leS := by
  cases l with
  | nil => exact .nil
  | cons x r =>
    obtain ⟨i1, i2⟩ := rising_pw r x h
    exact List.pairwise_cons.mpr ⟨i1, i2⟩
theorem sorted_unique {l l' : List Str} (p : l.Perm l') (h : sortedS l = true) (h' : sortedS l' = true) : l = l' :=
  List.Perm.eq_of_pairwise (fun _ _ _ _ x y => leS_anti x y) (sorted_pw h) (sorted_pw h') p
section
variable {prog : Program} {w : World} {A : Around} {E : Value → Shared → Prop} {s : Shared} {Q : Value → Shared → Prop}
theorem strs_lay' : ∀ (l : List Str), (∀ x ∈ l, PyData.strOk x = true) → PyData.canLayAll0 (l.map PyData.str) = true
  | [], _ => rfl
  | b :: bs, h => by
    simp only [List.map_cons, PyData.canLayAll0, PyData.canLay0, strs_lay' bs fun x hx => h x (.tail _ hx), h b (.head _), Bool.and_true]
theorem strs_eqv : ∀ (l : List Str), PyData.eqvAll (l.map PyData.str) (l.map PyData.str) = true
  | [] => rfl
  | b :: bs => by simp [PyData.eqvAll, PyData.eqv, strs_eqv bs]
theorem strs_depth : ∀ (l : List Str), PyData.depthAll (l.map PyData.str) = 0
  | [] => rfl
  | b :: bs => by simp [PyData.depthAll, PyData.depth, strs_depth bs]
theorem strs_ne {D D' : Addr} {vs vs' : List Value} {l : List Str} {k k' : Nat} (hD : s.heap.get? D = some (seqObj "list" vs.toArray k)) (hD' : s.heap.get? D' = some (seqObj "list" vs'.toArray k')) (hv : StrsAre vs l) (hv' : StrsAre vs' l) (hok : ∀ x ∈ l, PyData.strOk x = true) (hu : A.units + 50 < cLine) (h : Q (.bool false) s) :
    wpAny (model prog w) A (compareOp .NotEq (.ref D) (.ref D')) Q E s := by
  refine SeqAt.compareNe_reads (da := .list (l.map PyData.str)) (db := .list (l.map PyData.str)) (.list hD rfl rfl (by rw [List.toList_toArray]; exact hv.reads s.heap)) (.list hD' rfl rfl (by rw [List.toList_toArray]; exact hv'.reads s.heap)) (by rw [PyData.canLay0]; exact strs_lay' l hok) (by rw [PyData.canLay0]; exact strs_lay' l hok) ?_ ?_
  · exact Nat.lt_of_le_of_lt (Nat.add_le_add_left (Nat.le_trans (Nat.min_le_left _ _) (Nat.le_trans (by simp [PyData.depth, strs_depth] : (PyData.list (l.map PyData.str)).depth ≤ 1) (by decide))) _) hu
  · have : (!PyData.eqv (.list (l.map PyData.str)) (.list (l.map PyData.str))) = false := by simp [PyData.eqv, strs_eqv]
    rw [this]; exact h
theorem strsAre_of {α : Type} (f : α → Str) (g : α → Tok) : ∀ (l : List α), StrsAre (l.map fun x => .str (f x) (g x)) (l.map f)
  | [] => .nil
  | x :: l => .cons (f x) (g x) (strsAre_of f g l)
end
end Mine
end
section
open Mine PyProof.Rows.LCg PyProof.Rows.LCt
local macro_rules | `(tactic| kun_fit) => `(tactic| with_reducible first | assumption | exact pt1 | exact pt2 | exact pt3 | exact pt4 | exact pt5 | exact pt6 | exact pt7 | exact pt8 | exact pt9 | exact pt10 | exact pt11 | exact pt12 | exact pt13)
local macro_rules | `(tactic| k_ne) => `(tactic| (refine neN ?_; (try dsimp only); first | kun_fit | (refine Ne.symm ?_; kun_fit) | (refine Nat.ne_of_lt ?_; kun_fit) | (refine Nat.ne_of_gt ?_; kun_fit) | omega))
local macro_rules | `(tactic| k_room) => `(tactic| ((try simp only [depth_under_make, depth_under_kw, depth_in1, depth_deeper, depth_caller]); (try dsimp only); first | exact room_0 | exact room_1 | exact room_2 | exact room_3 | (have hcL9 : recursionLimit = 1000 := rfl; omega)))
local macro_rules | `(tactic| k_units) => `(tactic| ((try simp only [units_in1, units_deeper, Around.mark_units, units_caller]); (try dsimp only); first | exact room_0 | exact room_1 | exact room_2 | exact room_3 | (have hcL9 := cLine_is; omega)))
local macro_rules | `(tactic| k_enter) => `(tactic| (first | refine' enterD ?_ | refine' enterC ?_; k_whole))
local macro_rules | `(tactic| k_all) => `(tactic| first | assumption | exact all_1 | exact all_2)
local macro_rules | `(tactic| tb_start) => `(tactic| first | exact at_1 | exact at_2)
local macro_rules | `(tactic| k_inst) => `(tactic| exact instAt2)
local macro_rules | `(tactic| walk_at "eval ListComp") => `(tactic| (lct_look; k_dflt (refine LCt.ListComp_T (F₀ := by k_asm) (by with_unfolding_all rfl) (by decide) (by rfl) (by decide) (by rfl) ?_)))
local macro_rules | `(tactic| walk_at "binaryOp Add ref ref") => `(tactic| (k_dflt (refine add_lit ?_); intro D' h' F' N' l1; (try k_lt l1); (try k_sweep)))
local macro_rules | `(tactic| walk_at "compareOp IsNot ref ref") => `(tactic| (k_dflt (refine isNot_inst ?_)))
local macro_rules | `(tactic| walk_at "compareOp Is ref ref") => `(tactic| (k_dflt (refine is_inst ?_)))
local macro_rules | `(tactic| walk_at "call ref") => `(tactic| (with_reducible refine stop_call ?_))
local macro_rules | `(tactic| walk_at "eval GeneratorExp") => `(tactic| (refine Stop.of ?_))
local macro_rules | `(tactic| walk_at "call builtin:any") => `(tactic| (refine Stop.of ?_))
local macro_rules | `(tactic| walk_at "call type:list") => `(tactic| (k_dflt (refine list0_K ?_); intro D' h' F' N' l1; (try k_lt l1); (try k_sweep)))
local macro_rules | `(tactic| walk_at "call type:dict") => `(tactic| (k_dflt (refine dict0_K ?_); intro D' h' F' N' l1 lo'; (try k_lt l1); (try k_sweep)))
namespace Mine
open PyProof.Rows.LCg PyProof.Rows.LCt
section
variable {prog : Program} {w : World} {p : Program} {loose : List Str} {mean : ExcName → Option Value} {mg mb : Str → Option Value}
  {A : Around} {h₀ : Heap} {L : Addr} {m : Str → Option Value} {s : Shared} {Q : Value → Shared → Prop} {E : Value → Shared → Prop}
theorem add_user_raw (H : Here w p loose mean mg mb A L h₀ 20 100) (F : Fr h₀ L s.heap m)
   {x dx rl ul c1 c2 u du : Addr} {nm : Str} {t0 t1 t2 t3 t4 t5 : Tok} {as : List Addr} {n : Nat}
   (N : News h₀ L s.heap [(dx, roleDict w.params nm t0 t1 t2 t3 t4 t5 rl ul c1 c2)]) (hx : s.heap.get? x = some (instObj 814 dx)) (hul : s.heap.get? ul = some (listOf (as.map Value.ref).toArray n)) (hne : ul ≠ dx) (hsz : as.length ≤ 1000)
   (has : ∀ a ∈ as, ∃ d, s.heap.get? a = some (instObj 814 d)) (hu : s.heap.get? u = some (instObj 814 du))
   (ret : ∀ D h' tk', KeepBut [dx] s.heap h' → h'.get? dx = some (roleDict w.params nm t0 t1 t2 t3 t4 t5 rl D c1 c2) → h'.get? D = some (listOf ((as.filter (· != u) ++ [u]).map Value.ref).toArray 0) → s.heap.get? D = none → Q .none { s with heap := h', toks := tk' }) :
   wpAny (model prog w) A (call (.ref 750) [.ref x, .ref u]) Q E s := by
  refine H.openA ?_
  clear H
  intro A₀ base outer env dp gd un B hf hke hdp hun X T
  refine wpAny_call ?_
  k_dflt k_enter
  intro g' L' h' tk' cells' FG' F' N' Y' B' X' T' l1 kG'
  k_lt l1
  k_cells Y'
  simp only [List.cons_append, List.nil_append] at N'
  dsimp only
  have hinst : ∀ a d, s.heap.get? a = some (instObj 814 d) → g'.get? a = some (instObj 814 d) := fun a d e => kG' a _ e (by
    intro q; rw [List.mem_singleton.mp q, (N _ (.head _)).1] at e; cases e)
  have bx := hinst _ _ hx
  have bu := hinst _ _ hu
  have bul := kG' ul _ hul (by simpa using hne)
  k_steps
  refine LCt.CompSrcT.base (by rfl) (by k_asm) (by k_asm) ⟨_, bul, rfl, _, rfl⟩ ?_ ?_
  · rw [List.size_toArray, List.length_map, sizeLine_eq]; omega
  intro g9
  refine compRestT_pure (fun v => v != .ref u) (fun v => v) ?_ ?_ ?_ ?_
  · exact Or.inl ⟨_, bul, rfl, _, rfl⟩
  · intro v I oI C oC D ys m₂ h tk E' hv hC hx F N
    obtain ⟨v', hv', rfl⟩ := List.mem_map.mp hv
    obtain ⟨dv, hv9⟩ := has v' hv'
    have bv := hinst _ _ hv9
    k_steps
    exact ⟨rfl, _, _, rfl, Keep.refl _⟩
  · intro v I oI C oC D ys m₂ h tk E' hv hp hC hx F N
    k_steps
    exact ⟨rfl, _, _, rfl, Keep.refl _⟩
  rw [filter_ref_map]
  k_steps
  refine ret _ _ _ (KeepBut.of kG' fun b o e => Fr.keep (by k_asm) b o e) (News.get (by k_asm) (by k_mem)) ?_ (GSub.fresh kG' (by k_asm) (by k_mem) ?_)
  · rw [List.map_append]; exact News.get (by k_asm) (by k_mem)
  · exact fun q => absurd (List.mem_singleton.mp q) (by k_ne)
theorem remove_user_raw (H : Here w p loose mean mg mb A L h₀ 20 100) (F : Fr h₀ L s.heap m)
   {x dx rl ul c1 c2 u du : Addr} {nm : Str} {t0 t1 t2 t3 t4 t5 : Tok} {as : List Addr} {n : Nat}
   (N : News h₀ L s.heap [(dx, roleDict w.params nm t0 t1 t2 t3 t4 t5 rl ul c1 c2)]) (hx : s.heap.get? x = some (instObj 814 dx)) (hul : s.heap.get? ul = some (listOf (as.map Value.ref).toArray n)) (hne : ul ≠ dx) (hsz : as.length ≤ 1000)
   (has : ∀ a ∈ as, ∃ d, s.heap.get? a = some (instObj 814 d)) (hu : s.heap.get? u = some (instObj 814 du))
   (ret : ∀ D h' tk', KeepBut [dx] s.heap h' → h'.get? dx = some (roleDict w.params nm t0 t1 t2 t3 t4 t5 rl D c1 c2) → h'.get? D = some (lst ((as.filter (· != u)).map Value.ref)) → s.heap.get? D = none → Q .none { s with heap := h', toks := tk' }) :
   wpAny (model prog w) A (call (.ref 755) [.ref x, .ref u]) Q E s := by
  refine H.openA ?_
  clear H
  intro A₀ base outer env dp gd un B hf hke hdp hun X T
  refine wpAny_call ?_
  k_dflt k_enter
  intro g' L' h' tk' cells' FG' F' N' Y' B' X' T' l1 kG'
  k_lt l1
  k_cells Y'
  simp only [List.cons_append, List.nil_append] at N'
  dsimp only
  have hinst : ∀ a d, s.heap.get? a = some (instObj 814 d) → g'.get? a = some (instObj 814 d) := fun a d e => kG' a _ e (by
    intro q; rw [List.mem_singleton.mp q, (N _ (.head _)).1] at e; cases e)
  have bx := hinst _ _ hx
  have bu := hinst _ _ hu
  have bul := kG' ul _ hul (by simpa using hne)
  k_steps
  refine LCt.CompSrcT.base (by rfl) (by k_asm) (by k_asm) ⟨_, bul, rfl, _, rfl⟩ ?_ ?_
  · rw [List.size_toArray, List.length_map, sizeLine_eq]; omega
  intro g9
  refine compRestT_pure (fun v => v != .ref u) (fun v => v) ?_ ?_ ?_ ?_
  · exact Or.inl ⟨_, bul, rfl, _, rfl⟩
  · intro v I oI C oC D ys m₂ h tk E' hv hC hx F N
    obtain ⟨v', hv', rfl⟩ := List.mem_map.mp hv
    obtain ⟨dv, hv9⟩ := has v' hv'
    have bv := hinst _ _ hv9
    k_steps
    exact ⟨rfl, _, _, rfl, Keep.refl _⟩
  · intro v I oI C oC D ys m₂ h tk E' hv hp hC hx F N
    k_steps
    exact ⟨rfl, _, _, rfl, Keep.refl _⟩
  rw [filter_ref_map]
  k_steps
  refine ret _ _ _ (KeepBut.of kG' fun b o e => Fr.keep (by k_asm) b o e) (News.get (by k_asm) (by k_mem)) (News.get (by k_asm) (by k_mem)) (GSub.fresh kG' (by k_asm) (by k_mem) ?_)
  · exact fun q => absurd (List.mem_singleton.mp q) (by k_ne)
theorem add_role_raw (H : Here w p loose mean mg mb A L h₀ 40 200) (F : Fr h₀ L s.heap m)
   {x dx rl ul c1 c2 : Addr} {nm : Str} {t0 t1 t2 t3 t4 t5 : Tok} {as : List Addr} {n : Nat}
   {y dy rly uly c1y c2y : Addr} {nmy : Str} {t0y t1y t2y t3y t4y t5y : Tok} {bs : List Addr} {ny : Nat}
   (N : News h₀ L s.heap [(dx, roleDict w.params nm t0 t1 t2 t3 t4 t5 rl ul c1 c2), (dy, roleDict w.params nmy t0y t1y t2y t3y t4y t5y rly uly c1y c2y)])
   (hx : s.heap.get? x = some (instObj 814 dx)) (hy : s.heap.get? y = some (instObj 814 dy)) (hxy : @Ne Nat dx dy)
   (hrl : s.heap.get? rl = some (listOf (as.map Value.ref).toArray n)) (huly : s.heap.get? uly = some (listOf (bs.map Value.ref).toArray ny)) (hsz : as.length ≤ 1000) (hszy : bs.length ≤ 1000)
   (has : ∀ a ∈ as, ∃ d, s.heap.get? a = some (instObj 814 d)) (hbs : ∀ a ∈ bs, ∃ d, s.heap.get? a = some (instObj 814 d))
   (ret : ∀ D D' h' tk', KeepBut [dx, dy] s.heap h' → h'.get? dx = some (roleDict w.params nm t0 t1 t2 t3 t4 t5 D ul c1 c2) → h'.get? D = some (listOf ((as.filter (· != y) ++ [y]).map Value.ref).toArray 0) → s.heap.get? D = none →
     h'.get? dy = some (roleDict w.params nmy t0y t1y t2y t3y t4y t5y rly D' c1y c2y) → h'.get? D' = some (listOf ((bs.filter (· != x) ++ [x]).map Value.ref).toArray 0) → s.heap.get? D' = none → @Ne Nat D D' → Q .none { s with heap := h', toks := tk' }) :
   wpAny (model prog w) A (call (.ref 740) [.ref x, .ref y]) Q E s := by
  refine H.openA ?_
  clear H
  intro A₀ base outer env dp gd un B hf hke hdp hun X T
  refine wpAny_call ?_
  k_dflt k_enter
  intro g' L' h' tk' cells' FG' F' N' Y' B' X' T' l1 kG'
  k_lt l1
  k_cells Y'
  simp only [List.cons_append, List.nil_append] at N'
  dsimp only
  have bad1 := (N _ (.head _)).1
  have bad2 := (N _ (.tail _ (.head _))).1
  have hinst : ∀ a d, s.heap.get? a = some (instObj 814 d) → g'.get? a = some (instObj 814 d) := fun a d e => kG' a _ e (notin2 (ne_of_obj e bad1 (by simp)) (ne_of_obj e bad2 (by simp)))
  have hlists : ∀ a its k, s.heap.get? a = some (listOf its k) → g'.get? a = some (listOf its k) := fun a its k e => kG' a _ e (notin2 (ne_of_obj e bad1 (by simp)) (ne_of_obj e bad2 (by simp)))
  have bx := hinst _ _ hx
  have bu := hinst _ _ hy
  have brl := hlists _ _ _ hrl
  have buly := hlists _ _ _ huly
  k_steps
  refine LCt.CompSrcT.base (by rfl) (by k_asm) (by k_asm) ⟨_, brl, rfl, _, rfl⟩ ?_ ?_
  · rw [List.size_toArray, List.length_map, sizeLine_eq]; omega
  intro g9
  refine compRestT_pure (fun v => v != .ref y) (fun v => v) ?_ ?_ ?_ ?_
  · exact Or.inl ⟨_, brl, rfl, _, rfl⟩
  · intro v I oI C oC D ys m₂ h tk E' hv hC hx F N
    obtain ⟨v', hv', rfl⟩ := List.mem_map.mp hv
    obtain ⟨dv, hv9⟩ := has v' hv'
    have bv := hinst _ _ hv9
    k_steps
    exact ⟨rfl, _, _, rfl, Keep.refl _⟩
  · intro v I oI C oC D ys m₂ h tk E' hv hp hC hx F N
    k_steps
    exact ⟨rfl, _, _, rfl, Keep.refl _⟩
  rw [filter_ref_map]
  k_steps
  refine Stop.mk ?_
  refine add_user_raw ⟨⟨_, _, _, _, B', rfl, rfl, rfl⟩, rfl, by k_room, by k_units, X', T'⟩ (by k_asm) (newsSub (news' := [(dy, _)]) (by k_asm) (List.forall_mem_cons.mpr ⟨by k_mem, List.forall_mem_nil _⟩)) (by tb_start) (by tb_start) (ne_of_obj huly bad2 (by simp)) hszy ?_ (by tb_start) ?_
  · intro a ha
    obtain ⟨d, e⟩ := hbs a ha
    have e' := hinst _ _ e
    exact ⟨d, by tb_start⟩
  intro D2 h2 tk2 kb e1 e2 e3
  rename_i o1 la lb F9 N9
  have o3 := fresh_off N9 e3
  simp only [Off1, and_true] at o3
  have F2 := Fr.but F9 kb (notin1 (by k_ne)) (fun a ha => by rw [List.mem_singleton.mp ha]; exact News.fresh N9 (by k_mem))
  have N2 := news_cons (p := (D2, _)) e2 (Fr.neOf F9 e3) (none_of_keep F9.keep e3) (news_after N9 kb e1 (by k_upd))
  clear F9 N9
  k_steps
  refine ret _ _ _ _ (KeepBut.of kG' fun b o e => Fr.keep (by k_asm) b o e) (News.get (by k_asm) (by k_mem)) ?_ (GSub.fresh kG' (by k_asm) (by k_mem) ?_) (News.get (by k_asm) (by k_mem)) e2 (GSub.fresh kG' (by k_asm) (by k_mem) ?_) ?_
  · rw [List.map_append]; exact News.get (by k_asm) (by k_mem)
  · exact notin2 (by k_ne) (by k_ne)
  · exact notin2 (by k_ne) (by k_ne)
  · k_ne
end
end Mine
namespace Mine
open PyProof.Rows.LCg PyProof.Rows.LCt
section
variable {prog : Program} {w : World} {p : Program} {loose : List Str} {mean : ExcName → Option Value} {mg mb : Str → Option Value}
  {A : Around} {h₀ : Heap} {L : Addr} {m : Str → Option Value} {s : Shared} {Q : Value → Shared → Prop} {E : Value → Shared → Prop}
theorem remove_role_raw (H : Here w p loose mean mg mb A L h₀ 40 200) (F : Fr h₀ L s.heap m) (hG : AllBare s.gens)
   {x dx rl ul c1 c2 : Addr} {nm : Str} {t0 t1 t2 t3 t4 t5 : Tok} {as : List Addr} {n : Nat}
   {y dy rly uly c1y c2y : Addr} {nmy : Str} {t0y t1y t2y t3y t4y t5y : Tok} {bs : List Addr} {ny : Nat} {ps : Array Value}
   (N : News h₀ L s.heap [(dx, roleDict w.params nm t0 t1 t2 t3 t4 t5 rl ul c1 c2), (dy, roleDict w.params nmy t0y t1y t2y t3y t4y t5y rly uly c1y c2y), (742, tabObj ps)]) (htr : TriplesOk ps.toList)
   (hx : s.heap.get? x = some (instObj 814 dx)) (hy : s.heap.get? y = some (instObj 814 dy)) (hxy : @Ne Nat dx dy)
   (hrl : s.heap.get? rl = some (listOf (as.map Value.ref).toArray n)) (huly : s.heap.get? uly = some (listOf (bs.map Value.ref).toArray ny)) (hsz : as.length ≤ 1000) (hszy : bs.length ≤ 1000)
   (has : ∀ a ∈ as, ∃ d, s.heap.get? a = some (instObj 814 d)) (hbs : ∀ a ∈ bs, ∃ d, s.heap.get? a = some (instObj 814 d)) (hin : y ∈ as)
   (ret : ∀ D D' s' ps', KeepBut [dx, dy, 742] s.heap s'.heap → s'.heap.get? dx = some (roleDict w.params nm t0 t1 t2 t3 t4 t5 D ul c1 c2) → s'.heap.get? D = some (lst ((as.filter (· != y)).map Value.ref)) → s.heap.get? D = none →
     s'.heap.get? dy = some (roleDict w.params nmy t0y t1y t2y t3y t4y t5y rly D' c1y c2y) → s'.heap.get? D' = some (lst ((bs.filter (· != x)).map Value.ref)) → s.heap.get? D' = none → @Ne Nat D D' →
     s'.heap.get? 742 = some (tabObj ps') → TriplesOk ps'.toList → AllBare s'.gens → s'.os = s.os → Q .none s') :
   wpAny (model prog w) A (call (.ref 745) [.ref x, .ref y]) Q E s := by
  refine H.openA ?_
  clear H
  intro A₀ base outer env dp gd un B hf hke hdp hun X T
  refine wpAny_call ?_
  k_dflt k_enter
  intro g' L' h' tk' cells' FG' F' N' Y' B' X' T' l1 kG'
  k_lt l1
  k_cells Y'
  rename_i o1 d1
  simp only [List.cons_append, List.nil_append] at N'
  dsimp only
  have bad1 := (N _ (.head _)).1
  have bad2 := (N _ (.tail _ (.head _))).1
  have bad3 := (N _ (.tail _ (.tail _ (.head _)))).1
  have hinst : ∀ a d, s.heap.get? a = some (instObj 814 d) → g'.get? a = some (instObj 814 d) := fun a d e => kG' a _ e (notin3 (ne_of_obj e bad1 (by simp)) (ne_of_obj e bad2 (by simp)) (ne_of_obj e bad3 (by simp)))
  have hlists : ∀ a its k, s.heap.get? a = some (listOf its k) → g'.get? a = some (listOf its k) := fun a its k e => kG' a _ e (notin3 (ne_of_obj e bad1 (by simp)) (ne_of_obj e bad2 (by simp)) (ne_of_obj e bad3 (by simp)))
  have hd7 : @Ne Nat dx 742 := ne_of_obj bad1 bad3 (by simp)
  have hd8 : @Ne Nat dy 742 := ne_of_obj bad2 bad3 (by simp)
  have hP7 : s.heap.get? 742 = some (tabObj ps) := bad3
  clear bad1 bad2 bad3
  have bx := hinst _ _ hx
  have bu := hinst _ _ hy
  have brl := hlists _ _ _ hrl
  have buly := hlists _ _ _ huly
  k_steps
  refine Stop.mk ?_
  obtain ⟨bm, ob, BM⟩ := bmod_of T'
  refine' eval_genexp (c := 744) (P := 742) (ps := ps) (mg := mg) (bm := bm) (ob := ob) ?k1 ?k2 ?k3 ?k4 ?k5 ?k6 ?k7 ?k8 ?k9 ?k10 ?k11
  case k1 => with_unfolding_all rfl
  case k2 => with_unfolding_all rfl
  case k3 => with_unfolding_all rfl
  case k4 => with_unfolding_all rfl
  case k5 => decide
  case k6 => with_unfolding_all rfl
  case k7 => with_unfolding_all rfl
  case k8 => with_unfolding_all rfl
  case k9 => k_room
  case k11 => intro _; with_unfolding_all rfl
  k_steps
  have CH : CodeHd g' 744 742 := codeHd_of_K X' (code_rr w)
  refine Stop.mk ⟨rl, (as.map Value.ref).toArray, fun i v => v = .bool (as[i]? == some y), rfl, ⟨_, by tb_start, rfl, _, rfl⟩, hG, T'.nolimit.keeps (Fr.keep (by k_asm)), CH.keeps (Fr.keep (by k_asm)), News.get N' (by k_mem), htr, by decide, BM.keeps (Fr.keep (by k_asm)), ?_, ?_⟩
  · clear BM CH
    intro cv C A' E' i v t m₂ hA hD hU hi hn hm kb
    obtain ⟨a, ha, rfl⟩ := getRef hi
    obtain ⟨da, ea⟩ := has a (List.mem_of_getElem? ha)
    have ea' := hinst _ _ ea
    walk1
    refine' gen_local hn hm ?_ ?a ?b
    case a => with_unfolding_all rfl
    case b => with_unfolding_all rfl
    have e1 : t.heap.get? (L' + 1) = some _ := kb _ _ (notin1 (by k_ne)) (News.get (by k_asm) (.head _))
    have e2 := kb _ _ (notin1 (ne_of_obj ea hP7 (by simp))) (Fr.keep F' _ _ ea')
    have e3 := kb _ _ (notin1 (ne_of_obj hy hP7 (by simp))) (Fr.keep F' _ _ bu)
    refine' gen_free (k := L' + 1) ?c e1 d1 ?_ ?a ?b
    case a => with_unfolding_all rfl
    case b => with_unfolding_all rfl
    case c => with_unfolding_all rfl
    refine is_inst ⟨?_, t.heap, t.toks, rfl, fun _ _ e => e⟩ e2 e3
    show Value.bool _ = Value.bool (as[i]? == some y)
    rw [ha, ref_beq]
  · intro a s5 ps' kb e742 htr' hG5 hos G
    clear BM CH
    have F5 := Fr.but F' kb (notin1 (by k_ne)) (fun a ha => by rw [List.mem_singleton.mp ha]; exact News.fresh N' (by k_mem))
    k_steps
    refine Stop.mk ?_
    refine any_gen (q := fun i => as[i]? == some y) F5 hG5 G (Nat.le_sub_one_of_lt F'.ns.lt) ?_
    intro s6 F6 hG6 hos6 kp
    have hval : ((List.range (as.map Value.ref).toArray.size).any fun i => as[i]? == some y) = true := by
      rw [List.size_toArray, List.length_map, any_range_get]; exact decide_eq_true hin
    rw [hval]
    have kb6 : KeepBut [742] h' s6.heap := fun b o hb e => kp b o (le_pred e) (kb b o hb e)
    have e6 := kp _ _ (le_pred (News.get N' (by k_mem))) e742
    have N6 := news_after N' kb6 e6 (by k_upd)
    clear F5 kp kb e742 hval
    k_steps
    refine LCt.CompSrcT.base (by rfl) (by k_asm) (by k_asm) ⟨_, brl, rfl, _, rfl⟩ ?_ ?_
    · rw [List.size_toArray, List.length_map, sizeLine_eq]; omega
    intro g9
    refine compRestT_pure (fun v => v != .ref y) (fun v => v) ?_ ?_ ?_ ?_
    · exact Or.inl ⟨_, brl, rfl, _, rfl⟩
    · intro v I oI C oC D ys m₂ h tk E' hv hC hx F N
      obtain ⟨v', hv', rfl⟩ := List.mem_map.mp hv
      obtain ⟨dv, hv9⟩ := has v' hv'
      have bv := hinst _ _ hv9
      k_steps
      exact ⟨rfl, _, _, rfl, Keep.refl _⟩
    · intro v I oI C oC D ys m₂ h tk E' hv hp hC hx F N
      k_steps
      exact ⟨rfl, _, _, rfl, Keep.refl _⟩
    rw [filter_ref_map]
    k_steps
    refine Stop.mk ?_
    refine remove_user_raw ⟨⟨_, _, _, _, B', rfl, rfl, rfl⟩, rfl, by k_room, by k_units, X', T'⟩ (by k_asm) (newsSub (news' := [(dy, _)]) (by k_asm) (List.forall_mem_cons.mpr ⟨by k_mem, List.forall_mem_nil _⟩)) (by tb_start) (by tb_start) (ne_of_obj huly (N _ (.tail _ (.head _))).1 (by simp)) hszy ?_ (by tb_start) ?_
    · intro a ha
      obtain ⟨d, e⟩ := hbs a ha
      have e' := hinst _ _ e
      exact ⟨d, by tb_start⟩
    intro D2 h2 tk2 kb2 e1 e2 e3
    rename_i hq F9 N9
    have o3 := fresh_off N9 e3
    simp only [Off1, and_true] at o3
    have F2 := Fr.but F9 kb2 (notin1 (by k_ne)) (fun a ha => by rw [List.mem_singleton.mp ha]; exact News.fresh N9 (by k_mem))
    have N2 := news_cons (p := (D2, _)) e2 (Fr.neOf F9 e3) (none_of_keep F9.keep e3) (news_after N9 kb2 e1 (by k_upd))
    clear F9 N9 G
    k_steps
    refine ret _ _ _ ps' (KeepBut.of kG' fun b o e => Fr.keep (by k_asm) b o e) (News.get (by k_asm) (by k_mem)) (News.get (by k_asm) (by k_mem)) (GSub.fresh kG' (by k_asm) (by k_mem) ?_) (News.get (by k_asm) (by k_mem)) e2 (GSub.fresh kG' (by k_asm) (by k_mem) ?_) ?_ (News.get (by k_asm) (by k_mem)) htr' hG6 (hos6.trans hos)
    · exact notin3 (by k_ne) (by k_ne) (by k_ne)
    · exact notin3 (by k_ne) (by k_ne) (by k_ne)
    · k_ne
end
end Mine
namespace Mine
open PyProof.Rows.LCg PyProof.Rows.LCt
section
variable {prog : Program} {w : World} {p : Program} {loose : List Str} {mean : ExcName → Option Value} {mg mb : Str → Option Value}
  {A : Around} {h₀ : Heap} {L : Addr} {m : Str → Option Value} {s : Shared} {Q : Value → Shared → Prop} {E : Value → Shared → Prop}
theorem add_role_self (H : Here w p loose mean mg mb A L h₀ 40 200) (F : Fr h₀ L s.heap m)
   {x dx rl ul c1 c2 : Addr} {nm : Str} {t0 t1 t2 t3 t4 t5 : Tok} {as bs : List Addr} {n ny : Nat}
   (N : News h₀ L s.heap [(dx, roleDict w.params nm t0 t1 t2 t3 t4 t5 rl ul c1 c2)])
   (hx : s.heap.get? x = some (instObj 814 dx))
   (hrl : s.heap.get? rl = some (listOf (as.map Value.ref).toArray n)) (hul : s.heap.get? ul = some (listOf (bs.map Value.ref).toArray ny)) (hsz : as.length ≤ 1000) (hszy : bs.length ≤ 1000)
   (has : ∀ a ∈ as, ∃ d, s.heap.get? a = some (instObj 814 d)) (hbs : ∀ a ∈ bs, ∃ d, s.heap.get? a = some (instObj 814 d))
   (ret : ∀ D D' h' tk', KeepBut [dx] s.heap h' → h'.get? dx = some (roleDict w.params nm t0 t1 t2 t3 t4 t5 D D' c1 c2) → h'.get? D = some (listOf ((as.filter (· != x) ++ [x]).map Value.ref).toArray 0) → s.heap.get? D = none →
     h'.get? D' = some (listOf ((bs.filter (· != x) ++ [x]).map Value.ref).toArray 0) → s.heap.get? D' = none → @Ne Nat D D' → Q .none { s with heap := h', toks := tk' }) :
   wpAny (model prog w) A (call (.ref 740) [.ref x, .ref x]) Q E s := by
  refine H.openA ?_
  clear H
  intro A₀ base outer env dp gd un B hf hke hdp hun X T
  refine wpAny_call ?_
  k_dflt k_enter
  intro g' L' h' tk' cells' FG' F' N' Y' B' X' T' l1 kG'
  k_lt l1
  k_cells Y'
  simp only [List.cons_append, List.nil_append] at N'
  dsimp only
  have bad1 := (N _ (.head _)).1
  have hinst : ∀ a d, s.heap.get? a = some (instObj 814 d) → g'.get? a = some (instObj 814 d) := fun a d e => kG' a _ e (notin1 (ne_of_obj e bad1 (by simp)))
  have hlists : ∀ a its k, s.heap.get? a = some (listOf its k) → g'.get? a = some (listOf its k) := fun a its k e => kG' a _ e (notin1 (ne_of_obj e bad1 (by simp)))
  have bx := hinst _ _ hx
  have brl := hlists _ _ _ hrl
  have bul := hlists _ _ _ hul
  k_steps
  refine LCt.CompSrcT.base (by rfl) (by k_asm) (by k_asm) ⟨_, brl, rfl, _, rfl⟩ ?_ ?_
  · rw [List.size_toArray, List.length_map, sizeLine_eq]; omega
  intro g9
  refine compRestT_pure (fun v => v != .ref x) (fun v => v) ?_ ?_ ?_ ?_
  · exact Or.inl ⟨_, brl, rfl, _, rfl⟩
  · intro v I oI C oC D ys m₂ h tk E' hv hC hx F N
    obtain ⟨v', hv', rfl⟩ := List.mem_map.mp hv
    obtain ⟨dv, hv9⟩ := has v' hv'
    have bv := hinst _ _ hv9
    k_steps
    exact ⟨rfl, _, _, rfl, Keep.refl _⟩
  · intro v I oI C oC D ys m₂ h tk E' hv hp hC hx F N
    k_steps
    exact ⟨rfl, _, _, rfl, Keep.refl _⟩
  rw [filter_ref_map]
  k_steps
  refine Stop.mk ?_
  refine add_user_raw ⟨⟨_, _, _, _, B', rfl, rfl, rfl⟩, rfl, by k_room, by k_units, X', T'⟩ (by k_asm) (newsSub (news' := [(dx, _)]) (by k_asm) (List.forall_mem_cons.mpr ⟨by k_mem, List.forall_mem_nil _⟩)) (by tb_start) (by tb_start) (ne_of_obj hul bad1 (by simp)) hszy ?_ (by tb_start) ?_
  · intro a ha
    obtain ⟨d, e⟩ := hbs a ha
    have e' := hinst _ _ e
    exact ⟨d, by tb_start⟩
  intro D2 h2 tk2 kb e1 e2 e3
  rename_i o1 la lb F9 N9
  have o3 := fresh_off N9 e3
  simp only [Off1, and_true] at o3
  have F2 := Fr.but F9 kb (notin1 (by k_ne)) (fun a ha => by rw [List.mem_singleton.mp ha]; exact News.fresh N9 (by k_mem))
  have N2 := news_cons (p := (D2, _)) e2 (Fr.neOf F9 e3) (none_of_keep F9.keep e3) (news_after N9 kb e1 (by k_upd))
  clear F9 N9
  k_steps
  refine ret _ D2 _ _ (KeepBut.of kG' fun b o e => Fr.keep (by k_asm) b o e) (News.get (by k_asm) (by k_mem)) ?_ (GSub.fresh kG' (by k_asm) (by k_mem) ?_) e2 (GSub.fresh kG' (by k_asm) (by k_mem) ?_) ?_
  · rw [List.map_append]; exact News.get (by k_asm) (by k_mem)
  · exact notin1 (by k_ne)
  · exact notin1 (by k_ne)
  · k_ne
theorem remove_role_self (H : Here w p loose mean mg mb A L h₀ 40 200) (F : Fr h₀ L s.heap m) (hG : AllBare s.gens)
   {x dx rl ul c1 c2 : Addr} {nm : Str} {t0 t1 t2 t3 t4 t5 : Tok} {as bs : List Addr} {n ny : Nat} {ps : Array Value}
   (N : News h₀ L s.heap [(dx, roleDict w.params nm t0 t1 t2 t3 t4 t5 rl ul c1 c2), (742, tabObj ps)]) (htr : TriplesOk ps.toList)
   (hx : s.heap.get? x = some (instObj 814 dx))
   (hrl : s.heap.get? rl = some (listOf (as.map Value.ref).toArray n)) (hul : s.heap.get? ul = some (listOf (bs.map Value.ref).toArray ny)) (hsz : as.length ≤ 1000) (hszy : bs.length ≤ 1000)
   (has : ∀ a ∈ as, ∃ d, s.heap.get? a = some (instObj 814 d)) (hbs : ∀ a ∈ bs, ∃ d, s.heap.get? a = some (instObj 814 d)) (hin : x ∈ as)
   (ret : ∀ D D' s' ps', KeepBut [dx, 742] s.heap s'.heap → s'.heap.get? dx = some (roleDict w.params nm t0 t1 t2 t3 t4 t5 D D' c1 c2) → s'.heap.get? D = some (lst ((as.filter (· != x)).map Value.ref)) → s.heap.get? D = none →
     s'.heap.get? D' = some (lst ((bs.filter (· != x)).map Value.ref)) → s.heap.get? D' = none → @Ne Nat D D' →
     s'.heap.get? 742 = some (tabObj ps') → TriplesOk ps'.toList → AllBare s'.gens → s'.os = s.os → Q .none s') :
   wpAny (model prog w) A (call (.ref 745) [.ref x, .ref x]) Q E s := by
  refine H.openA ?_
  clear H
  intro A₀ base outer env dp gd un B hf hke hdp hun X T
  refine wpAny_call ?_
  k_dflt k_enter
  intro g' L' h' tk' cells' FG' F' N' Y' B' X' T' l1 kG'
  k_lt l1
  k_cells Y'
  rename_i o1 d1
  simp only [List.cons_append, List.nil_append] at N'
  dsimp only
  have bad1 := (N _ (.head _)).1
  have bad3 := (N _ (.tail _ (.head _))).1
  have hinst : ∀ a d, s.heap.get? a = some (instObj 814 d) → g'.get? a = some (instObj 814 d) := fun a d e => kG' a _ e (notin2 (ne_of_obj e bad1 (by simp)) (ne_of_obj e bad3 (by simp)))
  have hlists : ∀ a its k, s.heap.get? a = some (listOf its k) → g'.get? a = some (listOf its k) := fun a its k e => kG' a _ e (notin2 (ne_of_obj e bad1 (by simp)) (ne_of_obj e bad3 (by simp)))
  have hd7 : @Ne Nat dx 742 := ne_of_obj bad1 bad3 (by simp)
  have hP7 : s.heap.get? 742 = some (tabObj ps) := bad3
  clear bad1 bad3
  have bx := hinst _ _ hx
  have brl := hlists _ _ _ hrl
  have bul := hlists _ _ _ hul
  k_steps
  refine Stop.mk ?_
  obtain ⟨bm, ob, BM⟩ := bmod_of T'
  refine' eval_genexp (c := 744) (P := 742) (ps := ps) (mg := mg) (bm := bm) (ob := ob) ?k1 ?k2 ?k3 ?k4 ?k5 ?k6 ?k7 ?k8 ?k9 ?k10 ?k11
  case k1 => with_unfolding_all rfl
  case k2 => with_unfolding_all rfl
  case k3 => with_unfolding_all rfl
  case k4 => with_unfolding_all rfl
  case k5 => decide
  case k6 => with_unfolding_all rfl
  case k7 => with_unfolding_all rfl
  case k8 => with_unfolding_all rfl
  case k9 => k_room
  case k11 => intro _; with_unfolding_all rfl
  k_steps
  have CH : CodeHd g' 744 742 := codeHd_of_K X' (code_rr w)
  refine Stop.mk ⟨rl, (as.map Value.ref).toArray, fun i v => v = .bool (as[i]? == some x), rfl, ⟨_, by tb_start, rfl, _, rfl⟩, hG, T'.nolimit.keeps (Fr.keep (by k_asm)), CH.keeps (Fr.keep (by k_asm)), News.get N' (by k_mem), htr, by decide, BM.keeps (Fr.keep (by k_asm)), ?_, ?_⟩
  · clear BM CH
    intro cv C A' E' i v t m₂ hA hD hU hi hn hm kb
    obtain ⟨a, ha, rfl⟩ := getRef hi
    obtain ⟨da, ea⟩ := has a (List.mem_of_getElem? ha)
    have ea' := hinst _ _ ea
    walk1
    refine' gen_local hn hm ?_ ?a ?b
    case a => with_unfolding_all rfl
    case b => with_unfolding_all rfl
    have e1 : t.heap.get? (L' + 1) = some _ := kb _ _ (notin1 (by k_ne)) (News.get (by k_asm) (.head _))
    have e2 := kb _ _ (notin1 (ne_of_obj ea hP7 (by simp))) (Fr.keep F' _ _ ea')
    have e3 := kb _ _ (notin1 (ne_of_obj hx hP7 (by simp))) (Fr.keep F' _ _ bx)
    refine' gen_free (k := L' + 1) ?c e1 d1 ?_ ?a ?b
    case a => with_unfolding_all rfl
    case b => with_unfolding_all rfl
    case c => with_unfolding_all rfl
    refine is_inst ⟨?_, t.heap, t.toks, rfl, fun _ _ e => e⟩ e2 e3
    show Value.bool _ = Value.bool (as[i]? == some x)
    rw [ha, ref_beq]
  · intro a s5 ps' kb e742 htr' hG5 hos G
    clear BM CH
    have F5 := Fr.but F' kb (notin1 (by k_ne)) (fun a ha => by rw [List.mem_singleton.mp ha]; exact News.fresh N' (by k_mem))
    k_steps
    refine Stop.mk ?_
    refine any_gen (q := fun i => as[i]? == some x) F5 hG5 G (Nat.le_sub_one_of_lt F'.ns.lt) ?_
    intro s6 F6 hG6 hos6 kp
    have hval : ((List.range (as.map Value.ref).toArray.size).any fun i => as[i]? == some x) = true := by
      rw [List.size_toArray, List.length_map, any_range_get]; exact decide_eq_true hin
    rw [hval]
    have kb6 : KeepBut [742] h' s6.heap := fun b o hb e => kp b o (le_pred e) (kb b o hb e)
    have e6 := kp _ _ (le_pred (News.get N' (by k_mem))) e742
    have N6 := news_after N' kb6 e6 (by k_upd)
    clear F5 kp kb e742 hval
    k_steps
    refine LCt.CompSrcT.base (by rfl) (by k_asm) (by k_asm) ⟨_, brl, rfl, _, rfl⟩ ?_ ?_
    · rw [List.size_toArray, List.length_map, sizeLine_eq]; omega
    intro g9
    refine compRestT_pure (fun v => v != .ref x) (fun v => v) ?_ ?_ ?_ ?_
    · exact Or.inl ⟨_, brl, rfl, _, rfl⟩
    · intro v I oI C oC D ys m₂ h tk E' hv hC hx F N
      obtain ⟨v', hv', rfl⟩ := List.mem_map.mp hv
      obtain ⟨dv, hv9⟩ := has v' hv'
      have bv := hinst _ _ hv9
      k_steps
      exact ⟨rfl, _, _, rfl, Keep.refl _⟩
    · intro v I oI C oC D ys m₂ h tk E' hv hp hC hx F N
      k_steps
      exact ⟨rfl, _, _, rfl, Keep.refl _⟩
    rw [filter_ref_map]
    k_steps
    refine Stop.mk ?_
    refine remove_user_raw ⟨⟨_, _, _, _, B', rfl, rfl, rfl⟩, rfl, by k_room, by k_units, X', T'⟩ (by k_asm) (newsSub (news' := [(dx, _)]) (by k_asm) (List.forall_mem_cons.mpr ⟨by k_mem, List.forall_mem_nil _⟩)) (by tb_start) (by tb_start) (ne_of_obj hul (N _ (.head _)).1 (by simp)) hszy ?_ (by tb_start) ?_
    · intro a ha
      obtain ⟨d, e⟩ := hbs a ha
      have e' := hinst _ _ e
      exact ⟨d, by tb_start⟩
    intro D2 h2 tk2 kb2 e1 e2 e3
    rename_i hq F9 N9
    have o3 := fresh_off N9 e3
    simp only [Off1, and_true] at o3
    have F2 := Fr.but F9 kb2 (notin1 (by k_ne)) (fun a ha => by rw [List.mem_singleton.mp ha]; exact News.fresh N9 (by k_mem))
    have N2 := news_cons (p := (D2, _)) e2 (Fr.neOf F9 e3) (none_of_keep F9.keep e3) (news_after N9 kb2 e1 (by k_upd))
    clear F9 N9 G
    k_steps
    refine ret _ D2 _ ps' (KeepBut.of kG' fun b o e => Fr.keep (by k_asm) b o e) (News.get (by k_asm) (by k_mem)) (News.get (by k_asm) (by k_mem)) (GSub.fresh kG' (by k_asm) (by k_mem) ?_) e2 (GSub.fresh kG' (by k_asm) (by k_mem) ?_) ?_ (News.get (by k_asm) (by k_mem)) htr' hG6 (hos6.trans hos)
    · exact notin2 (by k_ne) (by k_ne)
    · exact notin2 (by k_ne) (by k_ne)
    · k_ne
end
end Mine
namespace Mine
open PyProof.Rows.LCg PyProof.Rows.LCt
section
variable {prog : Program} {w : World} {p : Program} {loose : List Str} {mean : ExcName → Option Value} {mg mb : Str → Option Value}
  {A : Around} {h₀ : Heap} {L : Addr} {m : Str → Option Value} {s : Shared} {Q : Value → Shared → Prop} {E : Value → Shared → Prop}
theorem role_init_raw (H : Here w p loose mean mg mb A L h₀ 40 200) (F : Fr h₀ L s.heap m) {nm : Str} {t0 : Tok}
   (ret : ∀ x d h' tk' (t1 t2 t3 t4 t5 : Tok) (rl ul c1 c2 : Addr), Fr h₀ L h' m → KeepBut [L] s.heap h' → h'.get? x = some (instObj 814 d) → h'.get? d = some (roleDict w.params nm t0 t1 t2 t3 t4 t5 rl ul c1 c2) → h'.get? rl = some (listOf #[] 0) → h'.get? ul = some (listOf #[] 0) →
     s.heap.get? x = none → s.heap.get? d = none → s.heap.get? rl = none → s.heap.get? ul = none → @Ne Nat rl ul → Q (.ref x) { s with heap := h', toks := tk' }) :
   wpAny (model prog w) A (call (.ref 814) [.str nm t0]) Q E s := by
  refine H.openA ?_
  clear H
  intro A₀ base outer env dp gd un B hf hke hdp hun X T
  have N : News h₀ L s.heap (restNews s.heap h₀ L) := rest_news
  refine' call_cls ?k1 ?k2 ?k3 ?k4 ?k5 ?k6 ?_
  case k1 => k_asm
  case k2 => k_asm
  case k3 => k_asm
  case k4 => k_is
  case k5 => k_is
  case k6 => k_is
  intro x' d' h' F' N' l1 l2
  have kb0 := rest_keep F F' N' (fun p hp => .tail _ (.tail _ hp))
  have d0 : s.heap.get? d' = none := news_off F l1 (N' _ (.tail _ (.head _))).2.2 (N' _ (.tail _ (.head _))).2.1
  have x0 : s.heap.get? x' = none := news_off F (fun p hp => Nat.lt_trans (l1 p hp) l2) (N' _ (.head _)).2.2 (N' _ (.head _)).2.1
  have N2 : News h₀ L h' [(x', instObj 814 d'), (d', dictOf [] 0)] := fun p hp => N' p (by
    refine memc hp ?_ fun hp => ?_
    · exact .head _
    · rw [List.mem_singleton.mp hp]; exact .tail _ (.head _))
  clear N' N l1
  k_lt2 l2
  k_dflt k_enter
  intro g' L' h'' FG' F'' N'' B' X' T' kG'
  dsimp only
  have old : ∀ b o, b ∉ [L] → s.heap.get? b = some o → g'.get? b = some o := fun b o hb e => kG' b o (kb0 b o hb e) (by
    have hx : b ≠ x' := fun q => by rw [q, x0] at e; cases e
    have hd : b ≠ d' := fun q => by rw [q, d0] at e; cases e
    exact notin2 hx hd)
  have new : ∀ b o h9 l9, News g' L' h9 l9 → News h₀ L h9 l9 → (b, o) ∈ l9 → s.heap.get? b = none := fun b o h9 l9 N9 M9 hm => by
    cases e : s.heap.get? b with
    | none => rfl
    | some o' =>
      have := old b o' (fun q => (M9 _ hm).2.1 (List.mem_singleton.mp q)) e
      rw [(N9 _ hm).2.2] at this; cases this
  k_steps
  refine ret _ _ _ _ _ _ _ _ _ _ _ _ _ (by k_asm) (fun b o hb e => Fr.keep (h₀ := g') (by k_asm) b o (old b o hb e)) (News.get (h₀ := g') (by k_asm) (by k_mem)) (News.get (h₀ := g') (by k_asm) (by k_mem)) (News.get (h₀ := g') (by k_asm) (by k_mem)) (News.get (h₀ := g') (by k_asm) (by k_mem)) x0 d0 (new _ _ _ _ (by k_asm) (by k_asm) (by k_mem)) (new _ _ _ _ (by k_asm) (by k_asm) (by k_mem)) (by k_ne)
end
end Mine
namespace Mine
open PyProof.Rows.LCg PyProof.Rows.LCt
section
variable {prog : Program} {w : World} {p : Program} {loose : List Str} {mean : ExcName → Option Value} {mg mb : Str → Option Value}
  {A : Around} {h₀ : Heap} {L : Addr} {m : Str → Option Value} {s : Shared} {Q : Value → Shared → Prop} {E : Value → Shared → Prop}
theorem get_role_raw (H : Here w p loose mean mg mb A L h₀ 60 300) (F : Fr h₀ L s.heap m)
   {a d al ar : Addr} {lv : Int} {tl u1 u2 u3 u4 u5 : Tok} {nm : Str} {t0 : Tok} {o : Obj} {kvs : List (Str × Value)}
   (N : News h₀ L s.heap [(ar, o)]) (hd : o.IsDictOf (strKind prog w) kvs) (hlo : (ar == sysModules) = false)
   (ha : s.heap.get? a = some (instObj 929 d)) (hdd : s.heap.get? d = some (mgrDict w.params lv tl u1 u2 u3 u4 u5 al ar)) (had : @Ne Nat a ar) (hdar : @Ne Nat d ar) (hsz : kvs.length ≤ 1000)
   (there : ∀ v h' tk', valueAt kvs nm = some v → Keep s.heap h' → Q v { s with heap := h', toks := tk' })
   (fresh : ∀ x dr rl ul c1 c2 (v1 v2 v3 v4 v5 : Tok) o' h' tk', valueAt kvs nm = none → KeepBut [ar] s.heap h' → h'.get? ar = some o' → o'.IsDictOf (strKind prog w) (kvs ++ [(nm, .ref x)]) →
     h'.get? x = some (instObj 814 dr) → h'.get? dr = some (roleDict w.params nm t0 v1 v2 v3 v4 v5 rl ul c1 c2) → h'.get? rl = some (listOf #[] 0) → h'.get? ul = some (listOf #[] 0) →
     s.heap.get? x = none → s.heap.get? dr = none → s.heap.get? rl = none → s.heap.get? ul = none → @Ne Nat rl ul → Q (.ref x) { s with heap := h', toks := tk' }) :
   wpAny (model prog w) A (call (.ref 861) [.ref a, .str nm t0]) Q E s := by
  refine H.openA ?_
  clear H
  intro A₀ base outer env dp gd un B hf hke hdp hun X T
  refine wpAny_call ?_
  k_dflt k_enter
  intro g' L' h' FG' F' N' B' X' T' kG'
  dsimp only
  have ba := kG' _ _ ha (notin1 had)
  have bd := kG' _ _ hdd (notin1 hdar)
  k_steps
  refine wpAny_notIn_of (strKind_is prog w nm t0) hlo (Heap.DictOf.mapOf (Heap.dictOf_iff.mpr ⟨o, News.get N' (by k_mem), hd⟩)) ?_
  have Dof := hd
  clear hd
  cases hv : valueAt kvs nm with
  | some v =>
    dsimp only [Option.isSome, Bool.not_true]
    have Dof' : h'.DictOf (strKind prog w) ar kvs := Heap.dictOf_iff.mpr ⟨o, News.get N' (by k_mem), Dof⟩
    clear Dof
    have kp : Keep s.heap h' := fun b o' e => by
      by_cases hb : b = ar
      · subst hb; rw [(N _ (.head _)).1] at e; cases e; exact News.get N' (by k_mem)
      · exact F'.keep b o' (kG' b o' e (fun q => hb (List.mem_singleton.mp q)))
    k_steps
    refine item_dict Dof' hv ?_
    dsimp only
    clear Dof'
    k_steps
    exact there v _ _ hv kp
  | none =>
    dsimp only [Option.isSome, Bool.not_false]
    k_steps
    refine Stop.mk ?_
    refine role_init_raw ⟨⟨_, _, _, _, B', rfl, rfl, rfl⟩, rfl, by k_room, by k_units, X', T'⟩ (by k_asm) ?_
    intro x dr h2 tk2 v1 v2 v3 v4 v5 rl ul c1 c2 F2 kb e1 e2 e3 e4 n1 n2 n3 n4 n5
    have hL : ar ∉ [L'] := notin1 (News.ne_of N' (.head _))
    have N2 : News g' L' h2 [(x, instObj 814 dr), (dr, roleDict w.params nm t0 v1 v2 v3 v4 v5 rl ul c1 c2), (rl, listOf #[] 0), (ul, listOf #[] 0), (ar, o)] :=
      news_cons (p := (x, _)) e1 (Fr.neOf F' n1) (none_of_keep F'.keep n1) (news_cons (p := (dr, _)) e2 (Fr.neOf F' n2) (none_of_keep F'.keep n2) (news_cons (p := (rl, _)) e3 (Fr.neOf F' n3) (none_of_keep F'.keep n3)
        (news_cons (p := (ul, _)) e4 (Fr.neOf F' n4) (none_of_keep F'.keep n4) (News.but N' kb (fun p hp => by rw [List.mem_singleton.mp hp]; exact hL)))))
    have q1 := fresh_off N' n1
    have q2 := fresh_off N' n2
    have q3 := fresh_off N' n3
    have q4 := fresh_off N' n4
    simp only [Off1, and_true] at q1 q2 q3 q4
    have old : ∀ b, h'.get? b = none → b ≠ ar → s.heap.get? b = none := fun b e hb => by
      cases q : s.heap.get? b with
      | none => rfl
      | some o' => have := F'.keep b o' (kG' b o' q (fun z => hb (List.mem_singleton.mp z))); rw [e] at this; cases this
    clear F' N'
    k_steps
    rename_i h9 F9 N9 tk9
    refine wpAny_setItem_pairs (hsz := by rw [sizeLine_eq]; omega) (strKind_is prog w nm t0) (Heap.dictOf_iff.mpr ⟨o, News.get N9 (by k_mem), Dof⟩) fun h3 hm3 hs3 => ?_
    rw [stored_new hv] at hm3
    obtain ⟨o3, ho3, hd3⟩ := Heap.dictOf_iff.mp hm3
    have kb3 : KeepBut [ar] h9 h3 := fun b o hb e => (hs3.2 b (fun q => hb (by rw [q]; exact .head _))).trans e
    have F3 := Fr.but F9 kb3 (notin1 (Ne.symm (News.ne_of (p := (ar, o)) N9 (by k_mem)))) (fun a ha => by rw [List.mem_singleton.mp ha]; exact News.fresh N9 (by k_mem))
    have N3 := news_after N9 kb3 ho3 (by k_upd)
    clear F9 N9 Dof hs3
    dsimp only
    k_steps
    refine wpAny_getItem_of (strKind_is prog w nm t0) hm3.mapOf (valueAt_new hv) ?_
    dsimp only
    k_steps
    refine fresh x dr rl ul c1 c2 v1 v2 v3 v4 v5 o3 _ _ hv (KeepBut.of kG' fun b o e => Fr.keep (by k_asm) b o e) ho3 hd3 (News.get N3 (by k_mem)) (News.get N3 (by k_mem)) (News.get N3 (by k_mem)) (News.get N3 (by k_mem)) (old _ n1 (Ne.symm q1)) (old _ n2 (Ne.symm q2)) (old _ n3 (Ne.symm q3)) (old _ n4 (Ne.symm q4)) n5
end
end Mine
namespace Mine
open PyProof.Rows.LCg PyProof.Rows.LCt
section
variable {prog : Program} {w : World} {p : Program} {loose : List Str} {mean : ExcName → Option Value} {mg mb : Str → Option Value}
  {A : Around} {h₀ : Heap} {L : Addr} {m : Str → Option Value} {s : Shared} {Q : Value → Shared → Prop} {E : Value → Shared → Prop}
theorem mgr_init_raw (H : Here w p loose mean mg mb A L h₀ 40 200) (F : Fr h₀ L s.heap m) {lv : Int} {tl : Tok}
   (ret : ∀ x d h' tk' (t1 t2 t3 t4 t5 : Tok) (al ar : Addr), Fr h₀ L h' m → KeepBut [L] s.heap h' → h'.get? x = some (instObj 929 d) → h'.get? d = some (mgrDict w.params lv tl t1 t2 t3 t4 t5 al ar) → h'.get? al = some (listOf #[] 0) → h'.get? ar = some (dictOf [] 0) →
     s.heap.get? x = none → s.heap.get? d = none → s.heap.get? al = none → s.heap.get? ar = none → @Ne Nat al ar → (ar == sysModules) = false → Q (.ref x) { s with heap := h', toks := tk' }) :
   wpAny (model prog w) A (call (.ref 929) [.int lv tl]) Q E s := by
  refine H.openA ?_
  clear H
  intro A₀ base outer env dp gd un B hf hke hdp hun X T
  have N : News h₀ L s.heap (restNews s.heap h₀ L) := rest_news
  refine' call_cls ?k1 ?k2 ?k3 ?k4 ?k5 ?k6 ?_
  case k1 => k_asm
  case k2 => k_asm
  case k3 => k_asm
  case k4 => k_is
  case k5 => k_is
  case k6 => k_is
  intro x' d' h' F' N' l1 l2
  have kb0 := rest_keep F F' N' (fun p hp => .tail _ (.tail _ hp))
  have d0 : s.heap.get? d' = none := news_off F l1 (N' _ (.tail _ (.head _))).2.2 (N' _ (.tail _ (.head _))).2.1
  have x0 : s.heap.get? x' = none := news_off F (fun p hp => Nat.lt_trans (l1 p hp) l2) (N' _ (.head _)).2.2 (N' _ (.head _)).2.1
  have N2 : News h₀ L h' [(x', instObj 929 d'), (d', dictOf [] 0)] := fun p hp => N' p (by
    refine memc hp ?_ fun hp => ?_
    · exact .head _
    · rw [List.mem_singleton.mp hp]; exact .tail _ (.head _))
  clear N' N l1
  k_lt2 l2
  k_dflt k_enter
  intro g' L' h'' FG' F'' N'' B' X' T' kG'
  dsimp only
  have old : ∀ b o, b ∉ [L] → s.heap.get? b = some o → g'.get? b = some o := fun b o hb e => kG' b o (kb0 b o hb e) (by
    have hx : b ≠ x' := fun q => by rw [q, x0] at e; cases e
    have hd : b ≠ d' := fun q => by rw [q, d0] at e; cases e
    exact notin2 hx hd)
  have new : ∀ b o h9 l9, News g' L' h9 l9 → News h₀ L h9 l9 → (b, o) ∈ l9 → s.heap.get? b = none := fun b o h9 l9 N9 M9 hm => by
    cases e : s.heap.get? b with
    | none => rfl
    | some o' =>
      have := old b o' (fun q => (M9 _ hm).2.1 (List.mem_singleton.mp q)) e
      rw [(N9 _ hm).2.2] at this; cases this
  k_steps
  rename ((_ == sysModules) = false) => lo9
  refine ret _ _ _ _ _ _ _ _ _ _ _ (by k_asm) (fun b o hb e => Fr.keep (h₀ := g') (by k_asm) b o (old b o hb e)) (News.get (h₀ := g') (by k_asm) (by k_mem)) (News.get (h₀ := g') (by k_asm) (by k_mem)) (News.get (h₀ := g') (by k_asm) (by k_mem)) (News.get (h₀ := g') (by k_asm) (by k_mem)) x0 d0 (new _ _ _ _ (by k_asm) (by k_asm) (by k_mem)) (new _ _ _ _ (by k_asm) (by k_asm) (by k_mem)) (by k_ne) lo9
theorem mgr_init10_raw (H : Here w p loose mean mg mb A L h₀ 40 200) (F : Fr h₀ L s.heap m) 
   (ret : ∀ x d h' tk' (tl t1 t2 t3 t4 t5 : Tok) (al ar : Addr), Fr h₀ L h' m → KeepBut [L] s.heap h' → h'.get? x = some (instObj 929 d) → h'.get? d = some (mgrDict w.params 10 tl t1 t2 t3 t4 t5 al ar) → h'.get? al = some (listOf #[] 0) → h'.get? ar = some (dictOf [] 0) →
     s.heap.get? x = none → s.heap.get? d = none → s.heap.get? al = none → s.heap.get? ar = none → @Ne Nat al ar → (ar == sysModules) = false → Q (.ref x) { s with heap := h', toks := tk' }) :
   wpAny (model prog w) A (call (.ref 929) []) Q E s := by
  refine H.openA ?_
  clear H
  intro A₀ base outer env dp gd un B hf hke hdp hun X T
  have N : News h₀ L s.heap (restNews s.heap h₀ L) := rest_news
  refine' call_cls ?k1 ?k2 ?k3 ?k4 ?k5 ?k6 ?_
  case k1 => k_asm
  case k2 => k_asm
  case k3 => k_asm
  case k4 => k_is
  case k5 => k_is
  case k6 => k_is
  intro x' d' h' F' N' l1 l2
  have kb0 := rest_keep F F' N' (fun p hp => .tail _ (.tail _ hp))
  have d0 : s.heap.get? d' = none := news_off F l1 (N' _ (.tail _ (.head _))).2.2 (N' _ (.tail _ (.head _))).2.1
  have x0 : s.heap.get? x' = none := news_off F (fun p hp => Nat.lt_trans (l1 p hp) l2) (N' _ (.head _)).2.2 (N' _ (.head _)).2.1
  have N2 : News h₀ L h' [(x', instObj 929 d'), (d', dictOf [] 0)] := fun p hp => N' p (by
    refine memc hp ?_ fun hp => ?_
    · exact .head _
    · rw [List.mem_singleton.mp hp]; exact .tail _ (.head _))
  clear N' N l1
  k_lt2 l2
  k_dflt k_enter
  intro g' L' h'' FG' F'' N'' B' X' T' kG'
  dsimp only
  have old : ∀ b o, b ∉ [L] → s.heap.get? b = some o → g'.get? b = some o := fun b o hb e => kG' b o (kb0 b o hb e) (by
    have hx : b ≠ x' := fun q => by rw [q, x0] at e; cases e
    have hd : b ≠ d' := fun q => by rw [q, d0] at e; cases e
    exact notin2 hx hd)
  have new : ∀ b o h9 l9, News g' L' h9 l9 → News h₀ L h9 l9 → (b, o) ∈ l9 → s.heap.get? b = none := fun b o h9 l9 N9 M9 hm => by
    cases e : s.heap.get? b with
    | none => rfl
    | some o' =>
      have := old b o' (fun q => (M9 _ hm).2.1 (List.mem_singleton.mp q)) e
      rw [(N9 _ hm).2.2] at this; cases this
  k_steps
  rename ((_ == sysModules) = false) => lo9
  refine ret _ _ _ _ _ _ _ _ _ _ _ _ (by k_asm) (fun b o hb e => Fr.keep (h₀ := g') (by k_asm) b o (old b o hb e)) (News.get (h₀ := g') (by k_asm) (by k_mem)) (News.get (h₀ := g') (by k_asm) (by k_mem)) (News.get (h₀ := g') (by k_asm) (by k_mem)) (News.get (h₀ := g') (by k_asm) (by k_mem)) x0 d0 (new _ _ _ _ (by k_asm) (by k_asm) (by k_mem)) (new _ _ _ _ (by k_asm) (by k_asm) (by k_mem)) (by k_ne) lo9
end
end Mine
namespace Mine
open PyProof.Rows.LCg PyProof.Rows.LCt
section
variable {prog : Program} {w : World} {p : Program} {loose : List Str} {mean : ExcName → Option Value} {mg mb : Str → Option Value}
  {A : Around} {h₀ : Heap} {L : Addr} {m : Str → Option Value} {s : Shared} {Q : Value → Shared → Prop} {E : Value → Shared → Prop}
inductive RoleAt (P : Params) (h : Heap) (x : Addr) (nm : Str) (as : List Addr) : Prop
  | mk  (dx rl ul c1 c2 : Addr) (t0 t1 t2 t3 t4 t5 : Tok) (n : Nat) (h1 : h.get? x = some (instObj 814 dx)) (h2 : h.get? dx = some (roleDict P nm t0 t1 t2 t3 t4 t5 rl ul c1 c2)) (h3 : h.get? rl = some (listOf (as.map Value.ref).toArray n)) : RoleAt P h x nm as
theorem RoleAt.but {P : Params} {h h' : Heap} {x : Addr} {nm : Str} {as : List Addr} {ps : Array Value} {t : Addr} (R : RoleAt P h x nm as) (ht : h.get? t = some (tabObj ps)) (k : KeepBut [t] h h') : RoleAt P h' x nm as := by
  obtain ⟨dx, rl, ul, c1, c2, t0, t1, t2, t3, t4, t5, n, e1, e2, e3⟩ := R
  exact ⟨dx, rl, ul, c1, c2, t0, t1, t2, t3, t4, t5, n, k _ _ (notin1 (ne_of_obj e1 ht (by simp))) e1, k _ _ (notin1 (ne_of_obj e2 ht (by simp))) e2, k _ _ (notin1 (ne_of_obj e3 ht (by simp))) e3⟩
noncomputable def stepL (succ : Addr → List Addr) (acc : List Addr) (x : Addr) : List Addr := acc ++ (succ x).filter (fun y => decide (y ∉ acc))
inductive HLInv (g : Heap) (L' : Addr) (m0 : Str → Option Value) (acc : Nat → List Addr) (no : Nat → Prop) (s0 : Shared) (I : Addr) (i : Nat) (t : Shared) : Prop
  | mk  (ov : Option Value) (D : Addr) (n : Nat) (oC : Obj) (ps : Array Value) (h1 : @Ne Nat I L') (h2 : g.get? I = none) (h3 : @Ne Nat I (L'+1)) (h4 : @Ne Nat I D) (h5 : @Ne Nat I 906) (h6 : Fr g L' t.heap (fun z => if z = ("role" : Str) then ov else m0 z)) (h7 : News g L' t.heap [(D, listOf ((acc i).map .ref).toArray n), (L'+1, oC), (906, tabObj ps)]) (h8 : oC.data = .cell (some (.ref D))) (h9 : TriplesOk ps.toList) (h10 : AllBare t.gens) (h11 : t.os = s0.os) (h12 : no i) : HLInv g L' m0 acc no s0 I i t
theorem hl_start {g h : Heap} {L' : Addr} {m0 : Str → Option Value} {acc : Nat → List Addr} {no : Nat → Prop} {s0 t : Shared} {I D : Addr} {oC : Obj} {ps : Array Value}
   (F : Fr g L' t.heap m0) (N : News g L' t.heap [(D, listOf #[] 0), (L'+1, oC), (906, tabObj ps)]) (hd : oC.data = .cell (some (.ref D))) (htr : TriplesOk ps.toList) (hG : AllBare t.gens) (hos : t.os = s0.os)
   (hm : m0 ("role" : Str) = none) (ha : acc 0 = []) (hno : no 0) (hI : t.heap.get? I = none) (k : Keep t.heap h) : HLInv g L' m0 acc no s0 I 0 { t with heap := h } := by
  have hm' : m0 = fun z => if z = ("role" : Str) then none else m0 z := funext fun z => by
    by_cases e : z = ("role" : Str)
    · rw [if_pos e, e]; exact hm
    · rw [if_neg e]
  have off := fresh_off N hI
  simp only [Off1, and_true] at off
  refine ⟨none, D, 0, oC, ps, Fr.neOf F hI, none_of_keep F.keep hI, Ne.symm off.2.1, Ne.symm off.1, Ne.symm off.2.2, ?_, ?_, hd, htr, hG, hos, hno⟩
  · rw [← hm']; exact F.keeps k
  · rw [ha]; exact N.grown k
theorem hl_stable {g h : Heap} {L' : Addr} {m0 : Str → Option Value} {acc : Nat → List Addr} {no : Nat → Prop} {s0 t : Shared} {I : Addr} {i tk : Nat} (J : HLInv g L' m0 acc no s0 I i t) (k : KeepBut [I] t.heap h) :
   HLInv g L' m0 acc no s0 I i { t with heap := h, toks := tk } := by
  obtain ⟨ov, D, n, oC, ps, i1, i2, i3, i4, i5, F, N, hd, htr, hG, hos, hno⟩ := J
  refine ⟨ov, D, n, oC, ps, i1, i2, i3, i4, i5, Fr.but F k (notin1 (Ne.symm i1)) (fun a ha => by rw [List.mem_singleton.mp ha]; exact i2), News.but N k ?_, hd, htr, hG, hos, hno⟩
  intro p hp
  refine memc hp ?_ fun hp => ?_
  · exact notin1 (Ne.symm i4)
  refine memc hp ?_ fun hp => ?_
  · exact notin1 (Ne.symm i3)
  rw [List.mem_singleton.mp hp]
  exact notin1 (Ne.symm i5)
inductive HLIn (g : Heap) (L' : Addr) (m3 : Str → Option Value) (I D : Addr) (oI oD oC : Obj) (acc xs : List Addr) (s0 : Shared) (own : List Addr) (i : Nat) (ys : List Value) (t : Shared) : Prop
  | mk (ps : Array Value) (h1 : (∀ a ∈ own, @Ne Nat a L' ∧ g.get? a = none ∧ @Ne Nat a I ∧ @Ne Nat a D ∧ @Ne Nat a (L' + 1) ∧ @Ne Nat a 906)) (h2 : Fr g L' t.heap m3) (h3 : News g L' t.heap [(I, oI), (D, oD), (L'+1, oC), (906, tabObj ps)]) (h4 : TriplesOk ps.toList) (h5 : AllBare t.gens) (h6 : t.os = s0.os) (h7 : ys = ((xs.take i).filter (fun y => decide (y ∉ acc))).map Value.ref) : HLIn g L' m3 I D oI oD oC acc xs s0 own i ys t
theorem hi_start {g h : Heap} {L' : Addr} {m3 : Str → Option Value} {I D : Addr} {oI oD oC : Obj} {acc xs : List Addr} {s0 t : Shared} {own : List Addr} {ps : Array Value}
   (F : Fr g L' t.heap m3) (N : News g L' t.heap [(I, oI), (D, oD), (L'+1, oC), (906, tabObj ps)]) (htr : TriplesOk ps.toList) (hG : AllBare t.gens) (hos : t.os = s0.os)
   (hI : ∀ a ∈ own, t.heap.get? a = none) (k : Keep t.heap h) : HLIn g L' m3 I D oI oD oC acc xs s0 own 0 [] { t with heap := h } := by
  refine ⟨ps, fun a ha => ?_, F.keeps k, N.grown k, htr, hG, hos, rfl⟩
  have off := fresh_off N (hI a ha)
  simp only [Off1, and_true] at off
  exact ⟨Fr.neOf F (hI a ha), none_of_keep F.keep (hI a ha), Ne.symm off.1, Ne.symm off.2.1, Ne.symm off.2.2.1, Ne.symm off.2.2.2⟩
theorem hi_stable {g h : Heap} {L' : Addr} {m3 : Str → Option Value} {I D : Addr} {oI oD oC : Obj} {acc xs : List Addr} {s0 t : Shared} {own : List Addr} {i tk : Nat} {ys : List Value}
   (J : HLIn g L' m3 I D oI oD oC acc xs s0 own i ys t) (k : KeepBut own t.heap h) : HLIn g L' m3 I D oI oD oC acc xs s0 own i ys { t with heap := h, toks := tk } := by
  obtain ⟨ps, off, F, N, htr, hG, hos, hy⟩ := J
  refine ⟨ps, off, Fr.but F k (fun q => (off _ q).1 rfl) (fun a ha => (off a ha).2.1), News.but N k ?_, htr, hG, hos, hy⟩
  intro p hp
  refine memc hp ?_ fun hp => ?_
  · exact fun q => (off _ q).2.2.1 rfl
  refine memc hp ?_ fun hp => ?_
  · exact fun q => (off _ q).2.2.2.1 rfl
  refine memc hp ?_ fun hp => ?_
  · exact fun q => (off _ q).2.2.2.2.1 rfl
  rw [List.mem_singleton.mp hp]
  exact fun q => (off _ q).2.2.2.2.2 rfl
theorem Fr.role2 {g h : Heap} {L' : Addr} {m0 : Str → Option Value} {ov v : Option Value} (F : Fr g L' h (fun y => if y = ("role" : Str) then v else if y = ("role" : Str) then ov else m0 y)) : Fr g L' h (fun y => if y = ("role" : Str) then v else m0 y) := by
  have e : (fun y => if y = ("role" : Str) then v else if y = ("role" : Str) then ov else m0 y) = (fun y => if y = ("role" : Str) then v else m0 y) := funext fun y => by
    by_cases e : y = ("role" : Str)
    · rw [if_pos e, if_pos e]
    · rw [if_neg e, if_neg e, if_neg e]
  exact e ▸ F
theorem stepL_mem {U : List Addr} {succ : Addr → List Addr} (hU : ∀ x ∈ U, ∀ y ∈ succ x, y ∈ U) : ∀ (rs acc : List Addr), (∀ x ∈ rs, x ∈ U) → (∀ x ∈ acc, x ∈ U) → ∀ y ∈ rs.foldl (stepL succ) acc, y ∈ U
  | [], acc, _, ha, y, hy => ha y hy
  | x :: rs, acc, hr, ha, y, hy => by
    refine stepL_mem hU rs _ (fun z hz => hr z (.tail _ hz)) (fun z hz => ?_) y hy
    rcases List.mem_append.mp hz with hz | hz
    · exact ha z hz
    · exact hU x (hr x (.head _)) z (List.mem_filter.mp hz).1
theorem stepL_nodup {U : List Addr} {succ : Addr → List Addr} (hn : ∀ x ∈ U, (succ x).Nodup) : ∀ (rs acc : List Addr), (∀ x ∈ rs, x ∈ U) → acc.Nodup → (rs.foldl (stepL succ) acc).Nodup
  | [], _, _, ha => ha
  | x :: rs, acc, hr, ha => by
    refine stepL_nodup hn rs _ (fun z hz => hr z (.tail _ hz)) ?_
    refine List.nodup_append.mpr ⟨ha, List.Nodup.sublist (List.filter_sublist) (hn x (hr x (.head _))), fun a h1 b h2 e => ?_⟩
    have := (List.mem_filter.mp h2).2
    simp only [decide_eq_true_eq] at this
    exact this (e ▸ h1)
theorem nodup_len : ∀ (l U : List Addr), l.Nodup → (∀ x ∈ l, x ∈ U) → l.length ≤ U.length
  | [], _, _, _ => Nat.zero_le _
  | x :: l, U, hn, hs => by
    have hx := hs x (.head _)
    have := nodup_len l (U.erase x) (List.nodup_cons.mp hn).2 fun y hy => (List.mem_erase_of_ne (a := y) (b := x) (fun e => (List.nodup_cons.mp hn).1 (by rw [← e]; exact hy))).mpr (hs y (.tail _ hy))
    rw [List.length_erase_of_mem hx] at this
    have : U.length ≠ 0 := fun e => by rw [List.length_eq_zero_iff.mp e] at hx; cases hx
    rw [List.length_cons]; exact ar_pred (by assumption) (by assumption)
noncomputable def hasL (succ : Addr → List Addr) (nameOf : Addr → Str) (nm : Str) : Nat → List Addr → Bool
  | 0, _ => false
  | k + 1, rs => rs.any (fun x => nm == nameOf x) || hasL succ nameOf nm k (rs.foldl (stepL succ) [])
theorem hasL_nil {succ : Addr → List Addr} {nameOf : Addr → Str} {nm : Str} : ∀ k, hasL succ nameOf nm k [] = false
  | 0 => rfl
  | k + 1 => by show (false || hasL succ nameOf nm k []) = false; rw [hasL_nil k]; rfl
theorem has_l_step {k : Nat}
   (IH : ∀ {A : Around} {h₀ : Heap} {L : Addr} {m : Str → Option Value} {s : Shared} {Q : Value → Shared → Prop} {E : Value → Shared → Prop}, Here w p loose mean mg mb A L h₀ (20 + 20 * k) (100 + 100 * k) → Fr h₀ L s.heap m → AllBare s.gens →
      ∀ {a d al ar : Addr} {lv0 : Int} {tl u1 u2 u3 u4 u5 : Tok} {nm : Str} {t0 : Tok} {rs : List Addr} {rlist : Addr} {lv : Int} {tk0 : Tok} {nr : Nat} {ps : Array Value}, News h₀ L s.heap [(906, tabObj ps)] → TriplesOk ps.toList → s.heap.get? a = some (instObj 929 d) → s.heap.get? d = some (mgrDict w.params lv0 tl u1 u2 u3 u4 u5 al ar) →
      ∀ {U : List Addr} {succ : Addr → List Addr} {nameOf : Addr → Str}, (∀ x ∈ U, RoleAt w.params s.heap x (nameOf x) (succ x)) → (∀ x ∈ U, ∀ y ∈ succ x, y ∈ U) → (∀ x ∈ U, (succ x).Nodup) → U.length ≤ 100 →
      (∀ x ∈ rs, x ∈ U) → rs.length ≤ 100 → s.heap.get? rlist = some (listOf (rs.map Value.ref).toArray nr) → lv = (k : Int) →
      (∀ b s' ps', b = hasL succ nameOf nm k rs → KeepBut [906] s.heap s'.heap → s'.heap.get? 906 = some (tabObj ps') → TriplesOk ps'.toList → AllBare s'.gens → s'.os = s.os → Q (.bool b) s') →
      wpAny (model prog w) A (call (.ref 909) [.ref a, .str nm t0, .ref rlist, .int lv tk0]) Q E s)
   (H : Here w p loose mean mg mb A L h₀ (20 + 20 * (k + 1)) (100 + 100 * (k + 1))) (F : Fr h₀ L s.heap m) (hG : AllBare s.gens)
   {a d al ar : Addr} {lv0 : Int} {tl u1 u2 u3 u4 u5 : Tok} {nm : Str} {t0 : Tok} {rs : List Addr} {rlist : Addr} {tk0 : Tok} {nr : Nat} {ps : Array Value} (N : News h₀ L s.heap [(906, tabObj ps)]) (htr : TriplesOk ps.toList) (ha : s.heap.get? a = some (instObj 929 d)) (hdd : s.heap.get? d = some (mgrDict w.params lv0 tl u1 u2 u3 u4 u5 al ar))
   {U : List Addr} {succ : Addr → List Addr} {nameOf : Addr → Str} (hro : ∀ x ∈ U, RoleAt w.params s.heap x (nameOf x) (succ x)) (hUs : ∀ x ∈ U, ∀ y ∈ succ x, y ∈ U) (hUn : ∀ x ∈ U, (succ x).Nodup) (hUl : U.length ≤ 100)
   (hrU : ∀ x ∈ rs, x ∈ U) (hrs : rs.length ≤ 100) (hr : s.heap.get? rlist = some (listOf (rs.map Value.ref).toArray nr))
   (ret : ∀ b s' ps', b = hasL succ nameOf nm (k + 1) rs → KeepBut [906] s.heap s'.heap → s'.heap.get? 906 = some (tabObj ps') → TriplesOk ps'.toList → AllBare s'.gens → s'.os = s.os → Q (.bool b) s') :
   wpAny (model prog w) A (call (.ref 909) [.ref a, .str nm t0, .ref rlist, .int (k + 1) tk0]) Q E s := by
  have hsu : ∀ x ∈ rs, (succ x).length ≤ 1000 := fun x hx => by have := nodup_len _ U (hUn x (hrU x hx)) (hUs x (hrU x hx)); omega
  have hacc : ∀ i, ∀ y ∈ (rs.take i).foldl (stepL succ) [], y ∈ U := fun i => stepL_mem hUs _ _ (fun z hz => hrU z (List.mem_of_mem_take hz)) (fun _ q => nomatch q)
  have h906 : s.heap.get? 906 = some (tabObj ps) := News.get N (by k_mem)
  refine H.openA ?_
  clear H
  intro A₀ base outer env dp gd un B hf hke hdp hun X T
  refine wpAny_call ?_
  k_dflt k_enter
  intro g' L' h' tk' cells' FG' F' N' Y' B' X' T' l1 kG'
  k_lt l1
  k_cells Y'
  simp only [List.cons_append, List.nil_append] at N'
  dsimp only
  have bad3 := (N _ (.head _)).1
  have ba := kG' _ _ ha (notin1 (ne_of_obj ha bad3 (by simp)))
  have bd := kG' _ _ hdd (notin1 (ne_of_obj hdd bad3 (by simp)))
  have br := kG' _ _ hr (notin1 (ne_of_obj hr bad3 (by simp)))
  clear bad3
  k_steps
  refine call_len_list (items := (rs.map Value.ref).toArray) ⟨_, Fr.keep (by k_asm) _ _ br, rfl, _, rfl⟩ ?_ ?_
  · rw [List.size_toArray, List.length_map]; omega
  rw [List.size_toArray, List.length_map]
  k_steps
  · rename_i hz kF kN
    have hz' : rs = [] := List.length_eq_zero_iff.mp (by omega)
    exact ret _ _ ps (by rw [hz', hasL_nil]) (KeepBut.of kG' fun b o e => Fr.keep F' b o e) (News.get N' (by k_mem)) htr hG rfl
  rename_i F9 N9 d9
  refine For_S ?_ (by intro _; rfl)
  k_steps
  refine Stop.mk ⟨rlist, rs.map Value.ref, HLInv g' L' _ (fun i => (rs.take i).foldl (stepL succ) []) (fun i => ∀ x ∈ rs.take i, nm ≠ nameOf x) s, rfl, ⟨_, Fr.keep F9 _ _ br, rfl, _, rfl⟩, rfl,
    fun I h' hI k => hl_start F9 N9 d9 htr hG rfl rfl rfl (fun _ q => nomatch q) hI k, fun I i s h' tk J k => hl_stable J k, ?_, ?_, ?_⟩
  · rintro I i t ⟨ov, D, n, oC, ps', i1, i2, i3, i4, i5, F, N, hd, htr, hG, hos, hno⟩
    exact ⟨_, Fr.keep F _ _ br, rfl, _, rfl⟩
  · rintro I i v t hv ⟨ov, D, n, oC, ps', i1, i2, i3, i4, i5, F, N, hd, htr, hG, hos, hno⟩ ⟨oI, eI⟩
    clear F9 N9 d9
    obtain ⟨x, hx, rfl⟩ := getRef (by simpa using hv)
    obtain ⟨h9, g9, d9, tk9, os9⟩ := t
    dsimp only at F N eI hG hos
    have N2 := news_cons (p := (I, _)) eI i1 i2 N
    obtain ⟨dx, rl, ul, c1, c2, x0, x1, x2, x3, x4, x5, nx, e1, e2, e3⟩ := hro x (hrU x (List.mem_of_getElem? hx))
    have b1 := kG' _ _ e1 (notin1 (ne_of_obj e1 h906 (by simp)))
    have b2 := kG' _ _ e2 (notin1 (ne_of_obj e2 h906 (by simp)))
    have b3 := kG' _ _ e3 (notin1 (ne_of_obj e3 h906 (by simp)))
    clear N
    k_steps
    · rename_i F9 N9 tk9 hne kF kN _ _
      have hv : hasL succ nameOf nm (k + 1) rs = true := by
        show (rs.any (fun x => nm == nameOf x) || _) = true
        rw [List.any_eq_true.mpr ⟨x, List.mem_of_getElem? hx, hne⟩]; rfl
      exact ret _ _ ps' hv.symm (KeepBut.of kG' fun b o e => Fr.keep F9 b o e) (News.get N9 (by k_mem)) htr hG hos
    rename_i F9 N9 _ hne
    refine' ListComp_SC ?k1 ?k2 ?k3 ?k4 ?k5 ?k6 ?k7 (by intro _; rfl)
    case k1 => with_unfolding_all rfl
    case k2 => rfl
    case k3 => decide
    case k4 => intro _; with_unfolding_all rfl
    case k5 => intro _; with_unfolding_all rfl
    case k6 => intro _ _; with_unfolding_all rfl
    k_steps
    refine Stop.mk ⟨rl, (succ x).map Value.ref, HLIn g' L' _ I D oI _ oC ((rs.take i).foldl (stepL succ) []) (succ x) s, rfl, ⟨_, Fr.keep F9 _ _ b3, rfl, _, rfl⟩, ?_, rfl,
      fun own h' hI k => hi_start F9 N9 htr hG hos hI k, fun own i ys s h' tk J k => hi_stable J k, ?_, ?_, ?_⟩
    · rw [List.length_map, sizeLine_eq]; have := hsu x (List.mem_of_getElem? hx); omega
    · rintro own j ys t ⟨ps2, off, F, N, htr, hG, hos, hy⟩
      exact ⟨_, Fr.keep F _ _ b3, rfl, _, rfl⟩
    · rintro own j ys v t C cr hcr hv ⟨ps2, off, F, N, htr, hG, hos, hy⟩ hc hex
      clear F9 N9
      refine wpAny_tests_one ?_
      obtain ⟨v, hv2, rfl⟩ := getRef (by simpa using hv)
      have hD6 : @Ne Nat D 906 := ne_of_obj (News.get N (.tail _ (.head _))) (News.get N (.tail _ (.tail _ (.tail _ (.head _))))) (by simp)
      clear i1 i2 i3 i4
      obtain ⟨h8, g8, d8, tk8, os8⟩ := t
      dsimp only at F N hG hos hc hex
      k_steps
      refine Stop.mk ?_
      obtain ⟨bm, ob, BM⟩ := bmod_of T'
      obtain ⟨oc, ec, dc⟩ := hc
      have accU : ∀ y ∈ (rs.take i).foldl (stepL succ) [], y ∈ U := hacc i
      refine' eval_genexp (c := 908) (P := 906) (ps := ps2) (mg := mg) (bm := bm) (ob := ob) ?j1 ?j2 ?j3 ?j4 ?j5 ?j6 ?j7 ?j8 ?j9 ?j10 ?j11
      case j1 => with_unfolding_all rfl
      case j2 => with_unfolding_all rfl
      case j3 => with_unfolding_all rfl
      case j4 => with_unfolding_all rfl
      case j5 => decide
      case j6 => with_unfolding_all rfl
      case j7 => with_unfolding_all rfl
      case j8 => with_unfolding_all rfl
      case j9 => k_room
      case j11 => intro _; with_unfolding_all rfl
      k_steps
      have CH : CodeHd g' 908 906 := codeHd_of_K X' (code_hl w)
      generalize hA : (rs.take i).foldl (stepL succ) [] = acc at N accU ⊢
      refine Stop.mk ⟨D, (acc.map Value.ref).toArray, fun i y => y = .bool (acc[i]? == some v), rfl, ⟨_, News.get N (by k_mem), rfl, _, rfl⟩, hG, T'.nolimit.keeps (Fr.keep F), CH.keeps (Fr.keep F), News.get N (by k_mem), htr, by decide, BM.keeps (Fr.keep F), ?_, ?_⟩
      · clear BM CH
        intro cv C2 A' E' q y t m₂ hA hD hU hi hn hm kb
        obtain ⟨z, hz, rfl⟩ := getRef hi
        have hvU : v ∈ U := hUs x (hrU x (List.mem_of_getElem? hx)) v (List.mem_of_getElem? hv2)
        have hzU : z ∈ U := accU z (List.mem_of_getElem? hz)
        obtain ⟨dv, _, _, _, _, _, _, _, _, _, _, _, ev, _, _⟩ := hro v hvU
        obtain ⟨dz, _, _, _, _, _, _, _, _, _, _, _, ez, _, _⟩ := hro z hzU
        have fv : t.heap.get? v = some (instObj 814 dv) := kb _ _ (notin1 (ne_of_obj ev h906 (by simp))) (Fr.keep F _ _ (kG' _ _ ev (notin1 (ne_of_obj ev h906 (by simp)))))
        have fz : t.heap.get? z = some (instObj 814 dz) := kb _ _ (notin1 (ne_of_obj ez h906 (by simp))) (Fr.keep F _ _ (kG' _ _ ez (notin1 (ne_of_obj ez h906 (by simp)))))
        have fc : t.heap.get? cr = some oc := kb _ _ (notin1 (off cr hcr).2.2.2.2.2) ec
        walk1
        refine' gen_free (k := cr) ?a1 fc dc ?_ ?a2 ?a3
        case a1 => with_unfolding_all rfl
        case a2 => with_unfolding_all rfl
        case a3 => with_unfolding_all rfl
        refine' gen_local hn hm ?_ ?b1 ?b2
        case b1 => with_unfolding_all rfl
        case b2 => with_unfolding_all rfl
        refine is_inst ⟨?_, t.heap, t.toks, rfl, fun _ _ e => e⟩ fv fz
        show Value.bool _ = Value.bool (acc[q]? == some v)
        rw [hz, ref_beq, Bool.beq_comm]
      · intro a s5 ps5 kb e906 htr5 hG5 hos5 G
        clear BM CH
        have F5 := Fr.but F kb (notin1 (by k_ne)) (fun a ha => by rw [List.mem_singleton.mp ha]; exact News.fresh N (by k_mem))
        k_steps
        refine Stop.mk ?_
        refine any_gen (q := fun i => acc[i]? == some v) F5 hG5 G (Nat.le_sub_one_of_lt F.ns.lt) ?_
        intro s6 F6 hG6 hos6 kp
        have hval : ((List.range (acc.map Value.ref).toArray.size).any fun i => acc[i]? == some v) = decide (v ∈ acc) := by
          rw [List.size_toArray, List.length_map, any_range_get]
        rw [hval]
        have kb6 : KeepBut [906] h8 s6.heap := fun b o hb e => kp b o (le_pred e) (kb b o hb e)
        have e6 := kp _ _ (le_pred (News.get N (by k_mem))) e906
        have N6 := news_after N kb6 e6 (by k_upd)
        clear F5 kp kb e906 hval
        by_cases hmem : v ∈ acc
        · rw [decide_eq_true hmem]
          k_steps
          refine Stop.mk ⟨⟨ps5, off, F6, hA ▸ N6, htr5, hG6, hos6.trans (hos5.trans hos), ?_⟩, fun b hb o e => kb6 b o (notin1 (off b hb).2.2.2.2.2) e⟩
          rw [List.take_add_one, hv2, List.filter_append, List.map_append, ← hy, hA]
          simp [hmem]
        · rw [decide_eq_false hmem]
          have fc : s6.heap.get? cr = some oc := kb6 _ _ (notin1 (off cr hcr).2.2.2.2.2) ec
          refine wpAny_truthy_bool ?_
          unfold qk
          simp only [Bool.not_false, if_true]
          refine wpAny_Name (wpAny_loadName_cell (c := cr) (v := .ref v) ?q1 ?q2 ?q3 ⟨oc, fc, dc⟩ ?_) (by decide)
          case q1 => rfl
          case q2 => with_unfolding_all rfl
          case q3 => with_unfolding_all rfl
          refine Stop.mk ⟨⟨ps5, off, F6, hA ▸ N6, htr5, hG6, hos6.trans (hos5.trans hos), ?_⟩, fun b hb o e => kb6 b o (notin1 (off b hb).2.2.2.2.2) e⟩
          rw [List.take_add_one, hv2, List.filter_append, List.map_append, ← hy, hA]
          simp [hmem]
    · rintro own D2 ys t hD2 ⟨ps2, off, F, N, htr, hG, hos, hy⟩ eD2
      clear F9 N9
      have N2 := news_cons (p := (D2, _)) eD2 (off D2 hD2).1 (off D2 hD2).2.1 N
      have dI := (off D2 hD2).2.2.1
      have dD := (off D2 hD2).2.2.2.1
      have dL := (off D2 hD2).2.2.2.2.1
      have dP := (off D2 hD2).2.2.2.2.2
      have hD6 : @Ne Nat D 906 := ne_of_obj (News.get N (.tail _ (.head _))) (News.get N (.tail _ (.tail _ (.tail _ (.head _))))) (by simp)
      have hxU := hrU x (List.mem_of_getElem? hx)
      have lacc : ((rs.take i).foldl (stepL succ) []).length ≤ 100 := Nat.le_trans (nodup_len _ U (stepL_nodup hUn _ _ (fun z hz => hrU z (List.mem_of_mem_take hz)) List.nodup_nil) (hacc i)) hUl
      have lys : ys.length ≤ 100 := by
        rw [hy, List.length_map]
        refine Nat.le_trans (List.length_filter_le _ _) (Nat.le_trans (List.length_take_le' _ _) ?_)
        exact Nat.le_trans (nodup_len _ U (hUn x hxU) (hUs x hxU)) hUl
      obtain ⟨h8, g8, d8, tk8, os8⟩ := t
      dsimp only at F N N2 hG hos eD2
      clear N eD2
      k_dflt (refine' kmk_add_lit ?y1 ?y2 ?y3 ?y4 ?y5 ?_ ?y6)
      case y1 => k_asm
      case y2 => k_asm
      case y3 => exact ⟨_, News.get N2 (by k_mem), rfl, _, rfl⟩
      case y4 => exact ⟨_, News.get N2 (by k_mem), rfl, _, rfl⟩
      case y5 => exact rfl
      case y6 => simp only [List.toList_toArray, List.length_map, sizeLine_eq]; omega
      intro D3 h' F' N' l1
      k_lt l1
      dsimp only [List.toList_toArray] at N'
      have hDL : @Ne Nat D (L' + 1) := fun e => by
        have x1 := News.get N2 (.tail _ (.tail _ (.head _)))
        have x2 := News.get N2 (.tail _ (.tail _ (.tail _ (.head _))))
        rw [show D = L' + 1 from e, x2] at x1
        rw [Option.some.inj x1] at hd; cases hd
      clear N2
      dsimp only
      k_steps
      rename_i F8 N8 d8
      show Stop _
      refine Stop.mk ⟨⟨some (.ref x), D3, 0, _, ps2, i1, i2, i3, ?_, i5, Fr.role2 F8, ?_, d8, htr, hG, hos, ?_⟩, fun o e => ?_⟩
      · k_ne
      · dsimp only
        rw [List.take_add_one, hx, List.foldl_append]
        have e9 : (Option.toList (some x)).foldl (stepL succ) ((rs.take i).foldl (stepL succ) []) = (rs.take i).foldl (stepL succ) [] ++ (succ x).filter (fun y => decide (y ∉ (rs.take i).foldl (stepL succ) [])) := rfl
        rw [e9, List.map_append]
        rw [List.length_map, List.take_length] at hy
        rw [← hy]
        exact newsSub N8 (List.forall_mem_cons.mpr ⟨by k_mem, List.forall_mem_cons.mpr ⟨by k_mem, List.forall_mem_cons.mpr ⟨by k_mem, List.forall_mem_nil _⟩⟩⟩)
      · intro z hz
        rw [List.take_add_one, hx] at hz
        rcases List.mem_append.mp hz with hz | hz
        · exact hno z hz
        · have : z = x := by simpa using hz
          rw [this]; exact fun q => by rw [q] at hne; simp at hne
      · rw [eI] at e; cases e; exact News.get N8 (by k_mem)
  · rintro I t ⟨ov, D, n, oC, ps', i1, i2, i3, i4, i5, F, N, hd, htr, hG, hos, hno⟩
    clear F9 N9 d9
    try dsimp only at N hno
    rw [List.length_map] at N hno
    rw [List.take_length] at N hno
    have hD6 : @Ne Nat D 906 := ne_of_obj (News.get N (.head _)) (News.get N (.tail _ (.tail _ (.head _)))) (by simp)
    obtain ⟨h8, g8, d8, tk8, os8⟩ := t
    dsimp only at F N hG hos
    generalize hacc9 : rs.foldl (stepL succ) [] = nxt at N
    have lnx : nxt.length ≤ 100 := hacc9 ▸ Nat.le_trans (nodup_len _ U (stepL_nodup hUn _ _ hrU List.nodup_nil) (fun y hy => stepL_mem hUs _ [] hrU (fun _ q => nomatch q) y hy)) hUl
    k_steps
    rename_i D2 c2 h' F8 N8 l2
    refine Stop.mk ?_
    have kb8 : KeepBut [906] s.heap h' := KeepBut.of kG' (fun b o e => Fr.keep F8 b o e)
    refine IH ⟨⟨_, _, _, _, B', rfl, rfl, rfl⟩, rfl, by k_room, by k_units, X', T'⟩ F8 hG (rs := nxt) (newsSub (news' := [(906, tabObj ps')]) N8 (List.forall_mem_cons.mpr ⟨by k_mem, List.forall_mem_nil _⟩)) htr (Fr.keep F8 _ _ ba) (Fr.keep F8 _ _ bd)
      (fun x hx => RoleAt.but (hro x hx) h906 kb8) hUs hUn hUl ?_ lnx (News.get N8 (by k_mem)) (by omega) ?_
    · intro y hy
      rw [← hacc9] at hy
      exact stepL_mem hUs _ [] hrU (fun _ q => nomatch q) y hy
    intro b s3 ps3 hb kb3 e3 htr3 hG3 hos3
    have F3 := Fr.but F8 kb3 (notin1 (by k_ne)) (fun a ha => by rw [List.mem_singleton.mp ha]; exact News.fresh N8 (by k_mem))
    have N3 := news_after N8 kb3 e3 (by k_upd)
    clear F8 N8
    k_steps
    refine ret b s3 ps3 ?_ (KeepBut.trans kb8 kb3) e3 htr3 hG3 (hos3.trans hos)
    rw [hb, ← hacc9]
    show _ = (rs.any (fun x => nm == nameOf x) || _)
    have : rs.any (fun x => nm == nameOf x) = false := by
      rw [List.any_eq_false]
      intro x hx
      have := hno x (by simpa using hx)
      simpa using this
    rw [this]; rfl
theorem has_l_raw (k : Nat) : ∀ {A : Around} {h₀ : Heap} {L : Addr} {m : Str → Option Value} {s : Shared} {Q : Value → Shared → Prop} {E : Value → Shared → Prop}, Here w p loose mean mg mb A L h₀ (20 + 20 * k) (100 + 100 * k) → Fr h₀ L s.heap m → AllBare s.gens →
      ∀ {a d al ar : Addr} {lv0 : Int} {tl u1 u2 u3 u4 u5 : Tok} {nm : Str} {t0 : Tok} {rs : List Addr} {rlist : Addr} {lv : Int} {tk0 : Tok} {nr : Nat} {ps : Array Value}, News h₀ L s.heap [(906, tabObj ps)] → TriplesOk ps.toList → s.heap.get? a = some (instObj 929 d) → s.heap.get? d = some (mgrDict w.params lv0 tl u1 u2 u3 u4 u5 al ar) →
      ∀ {U : List Addr} {succ : Addr → List Addr} {nameOf : Addr → Str}, (∀ x ∈ U, RoleAt w.params s.heap x (nameOf x) (succ x)) → (∀ x ∈ U, ∀ y ∈ succ x, y ∈ U) → (∀ x ∈ U, (succ x).Nodup) → U.length ≤ 100 →
      (∀ x ∈ rs, x ∈ U) → rs.length ≤ 100 → s.heap.get? rlist = some (listOf (rs.map Value.ref).toArray nr) → lv = (k : Int) →
      (∀ b s' ps', b = hasL succ nameOf nm k rs → KeepBut [906] s.heap s'.heap → s'.heap.get? 906 = some (tabObj ps') → TriplesOk ps'.toList → AllBare s'.gens → s'.os = s.os → Q (.bool b) s') →
      wpAny (model prog w) A (call (.ref 909) [.ref a, .str nm t0, .ref rlist, .int lv tk0]) Q E s := by
  induction k with
  | zero =>
    intro A h₀ L m s Q E H F hG a d al ar lv0 tl u1 u2 u3 u4 u5 nm t0 rs rlist lv tk0 nr ps N htr ha hdd U succ nameOf hro hUs hUn hUl hrU hrs hr hlv ret
    subst hlv
    refine H.openA ?_
    clear H
    intro A₀ base outer env dp gd un B hf hke hdp hun X T
    refine wpAny_call ?_
    k_dflt k_enter
    intro g' L' h' tk' cells' FG' F' N' Y' B' X' T' l1 kG'
    k_lt l1
    k_cells Y'
    simp only [List.cons_append, List.nil_append] at N'
    dsimp only
    k_steps
    exact ret _ _ ps rfl (KeepBut.of kG' fun b o e => Fr.keep F' b o e) (News.get N' (by k_mem)) htr hG rfl
  | succ k ih =>
    intro A h₀ L m s Q E H F hG a d al ar lv0 tl u1 u2 u3 u4 u5 nm t0 rs rlist lv tk0 nr ps N htr ha hdd U succ nameOf hro hUs hUn hUl hrU hrs hr hlv ret
    subst hlv
    exact has_l_step (fun H F hG _ _ _ _ _ _ _ _ _ _ _ _ _ _ _ _ _ _ _ N htr ha hdd _ _ _ hro hUs hUn hUl hrU hrs hr hlv ret => ih H F hG N htr ha hdd hro hUs hUn hUl hrU hrs hr hlv ret) H F hG N htr ha hdd hro hUs hUn hUl hrU hrs hr ret
end
end Mine
namespace Mine
open PyProof.Rows.LCg PyProof.Rows.LCt
section
variable {prog : Program} {w : World} {p : Program} {loose : List Str} {mean : ExcName → Option Value} {mg mb : Str → Option Value}
  {A : Around} {h₀ : Heap} {L : Addr} {m : Str → Option Value} {s : Shared} {Q : Value → Shared → Prop} {E : Value → Shared → Prop}
theorem meh_raw {l : List Env} {frs : List (Addr × Obj)} (H : HereT w p loose mean mg mb (hd.heap_1 w.params) A l frs h₀ s.heap 40 200) {n1 n2 : Str} {k1 k2 : Tok}
   (ret : ∀ h' tk' frs', TI.SameUp frs frs' → (∀ q ∈ frs', h'.get? q.1 = some q.2) → KeepBut (frs.map (·.1)) s.heap h' → Q (.bool false) { s with heap := h', toks := tk' }) :
   wpAny (model prog w) A (call (.ref 938) [.none, .str n1 k1, .str n2 k2]) Q E s := by
  have H' := H
  obtain ⟨hA, Fs, at_, off, kp, hh, hdp, hun, X, T⟩ := H
  obtain ⟨hd', dp, fr, gd, un⟩ := A
  dsimp only at hA hh hdp hun; subst hA; subst hh
  refine wpAny_call ?_
  k_dflt (refine' enterT H' ?k6 ?k7 ?k8 ?k9 ?kB ?_ ?c2 ?c3 ?c4 ?c5; (case k6 => k_is); (case k7 => k_is); (case k8 => k_room); (case k9 => exact BindsTo.of_eq rfl); (case kB => exact locs rfl); (case c5 => decide); (case c2 => exact rfl); (case c3 => exact rfl); (case c4 => exact rfl); k_whole)
  intro g' L' h' X' T' kG' kg0 F' N' _
  dsimp only
  k_steps
  refine callWith_none (by rfl) (by rfl) ?_ ⟨_, _, rfl⟩
  k_steps
  rename Heap.NewExc _ _ _ _ => hx
  refine TLg.noted_newA (new := []) (by rfl) Fs hx F' N' (fun _ q => nomatch q) ?_ (by rfl)
  intro h3 frs' SU Fs' Hn
  clear hx
  k_steps
  rename TT.HeldNA _ _ _ _ _ _ _ _ => hN
  refine clause_hitK (X := "TypeError") (T' := "Exception") hN X' (by k_asm) ?a1 PyProof.Rows.Boot.«Exception» ?a2 PySem.F.isExc_Exception PySem.F.notTuple_Exception ?a3 ?_ ?a4 ?a5 ?a6 ?a7
  case a1 => k_is
  case a2 => decide
  case a3 => rw [isSubtype_type]; kernel_rfl
  case a4 => rfl
  case a5 => rfl
  case a6 => decide
  case a7 => passes_own
  clear hN
  rename HeldAt _ _ _ _ _ _ _ => hAt
  clear hAt
  intro h4 F4 N4
  k_steps
  exact ret h4 _ frs' SU (fun q hq => (N4 q hq).1) (fun b o hb e => F4.keep b o (kG' b o e hb))
theorem mfn_raw {l : List Env} {frs : List (Addr × Obj)} (H : HereT w p loose mean mg mb (hd.heap_1 w.params) A l frs h₀ s.heap 80 400) {n1 n2 : Str} {k1 k2 : Tok} {a d al ar : Addr} {lv : Int} {tl t1 t2 t3 t4 t5 : Tok}
   (ha : s.heap.get? a = some (instObj 929 d)) (hdd : s.heap.get? d = some (mgrDict w.params lv tl t1 t2 t3 t4 t5 al ar)) (na : a ∉ frs.map (·.1)) (nd : d ∉ frs.map (·.1))
   (ret : ∀ h' tk' frs', TI.SameUp frs frs' → (∀ q ∈ frs', h'.get? q.1 = some q.2) → KeepBut (frs.map (·.1)) s.heap h' → Q (.bool false) { s with heap := h', toks := tk' }) :
   wpAny (model prog w) A (call (.ref 848) [.ref a, .str n1 k1, .str n2 k2, Value.ref 698]) Q E s := by
  have H' := H
  obtain ⟨hA, Fs, at_, off, kp, hh, hdp, hun, X, T⟩ := H
  obtain ⟨hd', dp, fr, gd, un⟩ := A
  dsimp only at hA hh hdp hun; subst hA; subst hh
  refine wpAny_call ?_
  k_dflt (refine' enterT H' ?k6 ?k7 ?k8 ?k9 ?kB ?_ ?c2 ?c3 ?c4 ?c5; (case k6 => k_is); (case k7 => k_is); (case k8 => k_room); (case k9 => exact binds_K (X.keeps kp) rfl (by k_is) rfl rfl rfl); (case kB => exact locs rfl); (case c5 => decide); (case c2 => exact rfl); (case c3 => exact rfl); (case c4 => exact rfl); k_whole)
  intro g' L' h' X' T' kG' kg0 F' N' hL
  dsimp only
  have ba := kG' _ _ ha na
  have bd := kG' _ _ hdd nd
  k_steps
  refine eq_same_inst (by k_units) (X'.keeps F'.keep) (InstAt.of_K (X'.keeps F'.keep) (by k_is) (by k_is)) (by k_is) (by k_is) ?_
  k_steps
  refine Stop.mk ?_
  rename Fr g' L' _ _ => F1
  rename News g' L' _ frs => N1
  obtain ⟨oL, es, ep, eL, dL⟩ := Ns.obj F1.ns
  refine meh_raw (HereT.below (dd' := 40) (uu' := 200) H' F1 N1 kg0 rfl (fun q => nomatch (q : ScopeKind.function = ScopeKind.module)) eL ⟨es, ep, dL⟩ (by k_room) (by k_units) rfl) ?_
  intro h3 tk3 frs' SU3 e3 kb3
  obtain ⟨qs, SU4, F3, N3⟩ := back_T F1 N1 eL SU3 e3 kb3
  clear F1 N1
  k_steps
  exact ret _ _ qs SU4 (fun q hq => (N3 q hq).1) (fun b o hb e => F3.keep b o (kG' b o e hb))
end
end Mine
namespace Mine
open PyProof.Rows.LCg PyProof.Rows.LCt
section
variable {prog : Program} {w : World} {p : Program} {loose : List Str} {mean : ExcName → Option Value} {mg mb : Str → Option Value}
  {A : Around} {h₀ : Heap} {L : Addr} {m : Str → Option Value} {s : Shared} {Q : Value → Shared → Prop} {E : Value → Shared → Prop}
noncomputable def numN (ns : List Int) (pl : Int) : Int := (if ns = [] then 0 else ns.getD (pl.fmod ns.length).toNat 0) + 7 * pl
theorem num_ret {ns : List Int} {pl k : Int} {h' : Heap} {tk' : Nat} {t' : Tok} (e : k = numN ns pl) (ret : ∀ h' tk' t', Keep s.heap h' → Q (.int (numN ns pl) t') { s with heap := h', toks := tk' }) (kp : Keep s.heap h') : Q (.int k t') { s with heap := h', toks := tk' } := by
  subst e; exact ret h' tk' t' kp
theorem law_number_raw (H : Here w p loose mean mg mb A L h₀ 40 200) (F : Fr h₀ L s.heap m) {sc : Addr} {vs : List Value} {ns : List Int} {pl : Int} {t : Tok} (hl : h₀.IsList sc vs.toArray) (hI : IntsAre vs ns) (hlen : ns.length ≤ 63) (h0 : 0 ≤ pl) (h1 : pl ≤ 100)
   (ret : ∀ h' tk' t', Keep s.heap h' → Q (.int (numN ns pl) t') { s with heap := h', toks := tk' }) :
   wpAny (model prog w) A (call (.ref 952) [.ref sc, .int pl t]) Q E s := by
  have N : News h₀ L s.heap [] := fun _ q => nomatch q
  refine H.openA ?_
  clear H
  intro A₀ base outer env dp gd un B hf hke hdp hun X T
  refine wpAny_call ?_
  k_dflt k_enter
  intro g' L' h' FG' F' N' B' X' T' kG'
  dsimp only
  have hl' : g'.IsList sc vs.toArray := hl.at fun o e => kG' _ _ (F.keep _ _ e) (fun q => nomatch q)
  have kp : Keep s.heap h' := fun b o e => F'.keep b o (kG' b o e (fun q => nomatch q))
  clear kG'
  k_steps
  · rename (0 < ns.length) => hpos
    exact num_ret (by unfold numN; rw [if_neg (fun q => by rw [q] at hpos; exact Nat.lt_irrefl _ hpos)]) ret kp
  · rename (¬ 0 < ns.length) => hpos
    exact num_ret (by unfold numN; rw [if_pos (List.length_eq_zero_iff.mp (Nat.eq_zero_of_not_pos hpos))]) ret kp
theorem numN_bits {ns : List Int} {pl : Int} (h : PyData.layable0 (.list (ns.map .int)) = true) (h0 : 0 ≤ pl) (h1 : pl ≤ 100) : Builtin.Int.intBits (numN ns pl) ≤ 1048577 := by
  unfold numN
  refine Nat.le_trans (intBits_add_le (m := 1048576) (n := 64) ?_ (intBits_le_iff.mpr (by omega))) (by decide)
  split
  · decide
  · exact kbm_getD h (by decide)
noncomputable def six : List Str := ["ann", "bob", "cat", "dan", "eve", "fay"]
noncomputable def nm6 (i : Nat) : Str := six.getD i ""
noncomputable def its6 (tk : Nat → Tok) : List Value := (List.range 6).map fun i => .str (nm6 i) (tk i)
theorem law_names_raw (H : Here w p loose mean mg mb A L h₀ 40 200) (F : Fr h₀ L s.heap m) 
   (ret : ∀ D (tk : Nat → Tok) h' tk', h'.get? D = some (listOf (its6 tk).toArray 0) → s.heap.get? D = none → Keep s.heap h' → Q (.ref D) { s with heap := h', toks := tk' }) :
   wpAny (model prog w) A (call (.ref 945) []) Q E s := by
  have N : News h₀ L s.heap [] := fun _ q => nomatch q
  refine H.openA ?_
  clear H
  intro A₀ base outer env dp gd un B hf hke hdp hun X T
  refine wpAny_call ?_
  k_dflt k_enter
  intro g' L' h' FG' F' N' B' X' T' kG'
  dsimp only
  k_steps
  rename Fr g' L' _ _ => F9
  rename News g' L' _ _ => N9
  have e9 := News.get N9 (.head _)
  have n9 := GSub.fresh kG' N9 (.head _) (fun q => nomatch q)
  have kp : Keep s.heap _ := fun b o e => F9.keep b o (kG' b o e (fun q => nomatch q))
  obtain ⟨t0, t1, t2, t3, t4, t5, e⟩ : ∃ t0 t1 t2 t3 t4 t5, _ = some (listOf #[.str "ann" t0, .str "bob" t1, .str "cat" t2, .str "dan" t3, .str "eve" t4, .str "fay" t5] 0) := ⟨_, _, _, _, _, _, e9⟩
  exact ret _ (fun i => [t0, t1, t2, t3, t4, t5].getD i 0) _ _ e n9 kp
end
end Mine
namespace Mine
open PyProof.Rows.LCg PyProof.Rows.LCt
section
variable {prog : Program} {w : World} {p : Program} {loose : List Str} {mean : ExcName → Option Value} {mg mb : Str → Option Value}
  {A : Around} {h₀ : Heap} {L : Addr} {m : Str → Option Value} {s : Shared} {Q : Value → Shared → Prop} {E : Value → Shared → Prop}
local macro_rules | `(tactic| walk_at "exec For Name Call cons nil") => `(tactic| (refine Stop.of ?_))
local macro_rules | `(tactic| walk_at "exec For Name ListComp cons nil") => `(tactic| (refine Stop.of ?_))
local macro_rules | `(tactic| walk_at "compareOp In str ref") => `(tactic| (k_dflt (refine in_strs at_1 ?_)))
local macro_rules | `(tactic| walk_at "compareOp NotIn str ref") => `(tactic| (k_dflt (refine notIn_strs at_1 ?_)))
theorem law_near_raw (H : Here w p loose mean mg mb A L h₀ 60 400) (F : Fr h₀ L s.heap m) {la : Addr} {ls : List PairR} {nla : Nat} {name : Str} {kn : Tok} {steps : Int} {ts : Tok} (hla : s.heap.get? la = some (listOf (ls.map fun l => Value.ref l.x).toArray nla)) (hls : ∀ l ∈ ls, s.heap.get? l.x = some l.ob) (hlen : ls.length ≤ 60) (h0 : -1 ≤ steps) (h1 : steps ≤ 20)
   (ret : ∀ D (nv : List (Str × Tok)) n h' tk', nv.map (·.1) = nearN (ls.map PairR.pr) steps.toNat [name] → h'.get? D = some (listOf (vals nv).toArray n) → s.heap.get? D = none → Keep s.heap h' → Q (.ref D) { s with heap := h', toks := tk' }) :
   wpAny (model prog w) A (call (.ref 957) [.ref la, .str name kn, .int steps ts]) Q E s := by
  have N : News h₀ L s.heap [] := fun _ q => nomatch q
  refine H.openA ?_
  clear H
  intro A₀ base outer env dp gd un B hf hke hdp hun X T
  refine wpAny_call ?_
  k_dflt k_enter
  intro g' L' h' tk' cells' FG' F' N' Y' B' X' T' l1 kG'
  k_lt l1
  k_cells Y'
  simp only [List.cons_append, List.nil_append] at N'
  dsimp only
  have bla := kG' _ _ hla (fun q => nomatch q)
  have bls : ∀ l ∈ ls, g'.get? l.x = some l.ob := fun l hl => kG' _ _ (hls l hl) (fun q => nomatch q)
  have kp0 : ∀ {hx : Heap} {mx : Str → Option Value}, Fr g' L' hx mx → Keep s.heap hx := fun F b o e => F.keep b o (kG' b o e (fun q => nomatch q))
  have fr0 : ∀ {hx : Heap} {lx : List (Addr × Obj)} {p : Addr × Obj}, News g' L' hx lx → p ∈ lx → s.heap.get? p.1 = none := fun N hp => GSub.fresh kG' N (D := _) (o := _) hp (fun q => nomatch q)
  clear kG' hla hls
  k_steps
  rename Fr g' L' _ _ => F1
  rename News g' L' _ _ => N1
  rename (_ = Data.cell (some _)) => d1
  refine Stop.mk ?_
  refine For_R ?_ (by intro _; rfl)
  k_steps
  rename IsRange _ _ _ _ _ _ _ _ => R2
  rename Fr g' L' _ _ => F2
  rename News g' L' _ _ => N2
  refine Stop.mk ⟨_, steps, _, _, _, NearJ g' L' _ _ s _ (fun acc i => acc = nearN (ls.map PairR.pr) i [name]), rfl, R2, by omega, by omega, rfl, fun I h' hI k => nj_start (nv := [(name, kn)]) (n := 0) (m0 := _) F2 (fun _ _ _ => rfl) N2 rfl ⟨_, _, rfl⟩ hI k, fun I i t h' tk J k => nj_stable J k, ?_, ?_⟩
  · rintro I i tk t hi ⟨o1, o2, nv, n, i1, i2, i3, i4, F, N, hf, hh, tkk, rfl⟩ ⟨oI, eI⟩
    clear F2 N2 R2
    have N3 : News g' L' hh ((_, listOf (vals nv).toArray n) :: (I, oI) :: [(L' + 1, _)]) := fun p hp => by
      refine memc hp ?_ fun hp => ?_
      · exact N _ (.head _)
      refine memc hp ?_ fun hp => ?_
      · exact ⟨eI, i1, i2⟩
      · exact N _ (.tail _ hp)
    clear N
    k_steps
    rename Fr g' L' _ _ => F4
    rename News g' L' _ _ => N4
    refine Stop.mk ?_
    refine For_S ?_ (by intro _; rfl)
    refine' ListComp_P ?k1 ?k2 ?k3 ?k4 ?k5 ?k6 ?k7 ?_ ?k8
    case k1 => with_unfolding_all rfl
    case k2 => decide
    case k3 => rfl
    case k4 => decide
    case k5 => with_unfolding_all rfl
    case k6 => with_unfolding_all rfl
    case k7 => decide
    case k8 => intro _; with_unfolding_all rfl
    k_steps
    refine Stop.mk ⟨la, ls.map fun l => Value.ref l.x, ls.map fun l => (Value.str l.n1 l.k1, Value.str l.n2 l.k2), (fun p => strIn (nv.map (·.1)) p.1), (·.2), rfl, ⟨_, F4.keep _ _ bla, rfl, _, rfl⟩, ?_, rfl, by simp, ?_, ?_, ?_, ?_⟩
    · rw [List.length_map, sizeLine_eq]; omega
    · intro j v va vb hj hp
      rw [List.getElem?_map] at hj hp
      obtain ⟨l, hl, rfl⟩ := Option.map_eq_some_iff.mp hj
      rw [hl] at hp
      cases hp
      exact ⟨l.x, rfl, _, F4.keep _ _ (bls l (List.mem_of_getElem? hl)), rfl, _, rfl⟩
    · intro j va vb C m₂ h5 tk5 hp k5 hC hn ma mb
      rw [List.getElem?_map] at hp
      obtain ⟨l, hl, hq⟩ := Option.map_eq_some_iff.mp hp
      cases hq
      obtain ⟨oC2, eC, nC⟩ := ns_obj hn
      have F5 := F4.keeps k5
      have N5 := news_cons (p := (C, oC2)) eC (Fr.neOf F4 hC) (none_of_keep F4.keep hC) (N4.grown k5)
      have off5 := fresh_off N4 hC
      simp only [Off1, and_true] at off5
      clear N4
      k_steps
      exact Stop.mk ⟨rfl, _, _, rfl, Keep.refl _⟩
    · intro j va vb C m₂ h5 tk5 hp hpz k5 hC hn ma mb
      obtain ⟨oC2, eC, nC⟩ := ns_obj hn
      have F5 := F4.keeps k5
      have N5 := news_cons (p := (C, oC2)) eC (Fr.neOf F4 hC) (none_of_keep F4.keep hC) (N4.grown k5)
      clear N4
      k_steps
      exact Stop.mk ⟨rfl, _, _, rfl, Keep.refl _⟩
    · intro D5 h5 tk5 k5 hD5 eD5
      rw [comp_vals] at eD5
      obtain ⟨its, hits⟩ : ∃ its, its = (ls.filter fun l => decide (l.n1 ∈ nv.map (·.1))).map fun l => (l.n2, l.k2) := ⟨_, rfl⟩
      rw [← hits] at eD5
      have F5 := F4.keeps k5
      have off5 := fresh_off N4 hD5
      simp only [Off1, and_true] at off5
      have N5 := newsSub (news' := (_, listOf (vals nv).toArray n) :: [(I, oI), (L' + 1, _), (D5, lst (vals its))]) (news_cons (p := (D5, _)) eD5 (Fr.neOf F4 hD5) (none_of_keep F4.keep hD5) (N4.grown k5)) (List.forall_mem_cons.mpr ⟨by k_mem, List.forall_mem_cons.mpr ⟨by k_mem, List.forall_mem_cons.mpr ⟨by k_mem, List.forall_mem_cons.mpr ⟨by k_mem, List.forall_mem_nil _⟩⟩⟩⟩)
      dsimp only
      refine Stop.mk ⟨D5, vals its, NearJ g' L' _ _ s _ (fun acc j => acc = ((its.map (·.1)).take j).foldl addN (nearN (ls.map PairR.pr) i [name])), rfl, ⟨_, eD5, rfl, _, rfl⟩, rfl, fun I' h' hI' k => nj_start2 F5 N5 (by simpa using hf) ⟨_, _, rfl⟩ hI' k, fun I' j t h' tk J k => nj_stable J k, ?_, ?_, ?_⟩
      · rintro I' j t ⟨_, _, _, _, _, _, _, _, _, N, _⟩
        exact ⟨_, (N _ (.tail _ (.tail _ (.tail _ (.head _))))).1, rfl, _, rfl⟩
      · rintro I' j v t hv ⟨p1, p2, nv', n', j1, j2, j3, j4, F, N, hf', hh', tk', rfl⟩ ⟨oJ, eJ⟩
        have j5 : @Ne Nat I I' := j4 (I, oI) (.head _)
        have j6 : @Ne Nat (L' + 1) I' := j4 (L' + 1, _) (.tail _ (.head _))
        have j7 : @Ne Nat D5 I' := j4 (D5, _) (.tail _ (.tail _ (.head _)))
        clear N4 F4 N5 F5
        have hv' : v ∈ vals its := List.mem_of_getElem? hv
        obtain ⟨⟨b, kb⟩, hb, rfl⟩ : ∃ q, its[j]? = some q ∧ v = .str q.1 q.2 := by
          unfold vals at hv
          rw [List.getElem?_map] at hv
          obtain ⟨q, hq, e⟩ := Option.map_eq_some_iff.mp hv
          exact ⟨q, hq, e.symm⟩
        have N6 : News g' L' hh' ((_, listOf (vals nv').toArray n') :: (I', oJ) :: [(I, oI), (L' + 1, _), (D5, lst (vals its))]) := fun p hp => by
          refine memc hp ?_ fun hp => ?_
          · exact N _ (.head _)
          refine memc hp ?_ fun hp => ?_
          · exact ⟨eJ, j1, j2⟩
          · exact N _ (.tail _ hp)
        clear N
        have fold1 : ∀ acc : List Str, ((its.map (·.1)).take (j + 1)).foldl addN acc = addN (((its.map (·.1)).take j).foldl addN acc) b := fun acc => by
          rw [List.take_add_one, List.getElem?_map, hb, List.foldl_append]; rfl
        have hnl : (vals nv').length ≤ 100 := by
          rw [vals_len, ← List.length_map (f := (·.1)) (as := nv'), hf']
          obtain ⟨q1, q2⟩ := nearN_ok (ls.map PairR.pr) name i
          obtain ⟨q3, q4⟩ := fold_addN ((its.map (·.1)).take j) _ q1
          have := near_len (ps := ls.map PairR.pr) (name := name) q3 fun c hc => by
            rcases (q4 c).mp hc with h | h
            · exact q2 c h
            · have h2 := List.mem_of_mem_take h
              rw [hits, comp_names] at h2
              obtain ⟨p, hp, rfl⟩ := List.mem_map.mp h2
              exact .inr (List.mem_map_of_mem (List.mem_filter.mp hp).1)
          rw [List.length_map] at this; omega
        k_steps
        · rename Fr g' L' _ _ => F7
          rename News g' L' _ _ => N7
          rename (_ ∈ List.map _ _) => hni
          refine nj_end (nv := nv') j1 j2 j3 j4 eJ F7 N7 ?_ ⟨_, _, rfl⟩
          rw [fold1, ← hf', addN, if_pos hni]
        · rename Fr g' L' _ _ => F7
          rename News g' L' _ _ => N7
          rename (¬ (_ ∈ List.map _ _)) => hni
          rw [vals_push] at N7
          refine nj_end (nv := nv' ++ [(b, kb)]) j1 j2 j3 j4 eJ F7 N7 ?_ ⟨_, _, rfl⟩
          rw [fold1, ← hf', addN, if_neg hni, List.map_append]; rfl
      · rintro I' t ⟨p1, p2, nv', n', j1, j2, j3, j4, F, N, hf', hh', tk', rfl⟩
        clear N4 F4 N5 F5
        k_steps
        refine nj_end2 (nv := nv') i1 i2 i3 i4 eI F (newsSub N (List.forall_mem_cons.mpr ⟨.head _, List.forall_mem_cons.mpr ⟨.tail _ (.head _), List.forall_mem_cons.mpr ⟨.tail _ (.tail _ (.head _)), List.forall_mem_nil _⟩⟩⟩)) ?_ ⟨_, _, rfl⟩
        rw [hf', List.take_of_length_le (by rw [List.length_map, vals_len]; exact Nat.le_refl _), nearN, nearStep, ← hf, hits, comp_names]
  · rintro I t ⟨p1, p2, nv', n', j1, j2, j3, j4, F, N, hf', hh', tk', rfl⟩
    clear F2 N2 R2
    k_steps
    exact ret _ nv' n' _ _ hf' (N _ (.head _)).1 (fr0 N (.head _)) (kp0 F)
end
end Mine
section
open PySem PySem.W PyProof.Rows PySem.Calls
namespace Mine
structure RoleR where
  x : Addr
  dx : Addr
  rl : Addr
  ul : Addr
  c1 : Addr
  c2 : Addr
  nm : Str
  t0 : Tok
  t1 : Tok
  t2 : Tok
  t3 : Tok
  t4 : Tok
  t5 : Tok
  as : List Addr
  bs : List Addr
  na : Nat
  nb : Nat
structure LinkR where
  t : Addr
  n1 : Str
  n2 : Str
  k1 : Tok
  k2 : Tok
  c : Nat
structure MgrR where
  a : Addr
  d : Addr
  al : Addr
  ar : Addr
  lv : Int
  tl : Tok
  u1 : Tok
  u2 : Tok
  u3 : Tok
  u4 : Tok
  u5 : Tok
  oar : Obj
  nal : Nat
  roles : List RoleR
  links : List LinkR
  pairs : List (Str × Str)
noncomputable def RoleR.dob (P : Params) (r : RoleR) : Obj := roleDict P r.nm r.t0 r.t1 r.t2 r.t3 r.t4 r.t5 r.rl r.ul r.c1 r.c2
noncomputable def RoleR.dic (P : Params) (r : RoleR) : Addr × Obj := (r.dx, r.dob P)
noncomputable def RoleR.fix (r : RoleR) : List (Addr × Obj) := [(r.x, instObj 814 r.dx), (r.rl, listOf (r.as.map Value.ref).toArray r.na), (r.ul, listOf (r.bs.map Value.ref).toArray r.nb)]
noncomputable def LinkR.ob (l : LinkR) : Obj := { cls := .type "tuple", data := .seq [.str l.n1 l.k1, .str l.n2 l.k2].toArray l.c }
noncomputable def LinkR.ent (l : LinkR) : Addr × Obj := (l.t, l.ob)
noncomputable def MgrR.kvs (M : MgrR) : List (Str × Value) := M.roles.map fun r => (r.nm, .ref r.x)
noncomputable def MgrR.dob (P : Params) (M : MgrR) : Obj := mgrDict P M.lv M.tl M.u1 M.u2 M.u3 M.u4 M.u5 M.al M.ar
noncomputable def MgrR.lob (M : MgrR) : Obj := listOf (M.links.map fun l => Value.ref l.t).toArray M.nal
noncomputable def MgrR.all (P : Params) (M : MgrR) : List (Addr × Obj) :=
  (M.a, instObj 929 M.d) :: (M.d, M.dob P) :: (M.al, M.lob) :: (M.ar, M.oar) :: (M.roles.map (RoleR.dic P) ++ (M.roles.flatMap RoleR.fix ++ M.links.map LinkR.ent))
noncomputable def MgrR.muts (M : MgrR) : List Addr := M.d :: M.al :: M.ar :: M.roles.map (·.dx)
noncomputable def MgrR.lps (M : MgrR) : List (Str × Str) := M.links.map fun l => (l.n1, l.n2)
noncomputable def MgrR.names (M : MgrR) : List Str := M.roles.map (·.nm)
noncomputable def MgrR.at (M : MgrR) (n : Str) : Addr := match M.roles.find? (fun r => r.nm == n) with | some r => r.x | none => 0
noncomputable def succN (ps : List (Str × Str)) (n : Str) : List Str := (ps.filter fun p => p.1 == n).map (·.2)
noncomputable def predN (ps : List (Str × Str)) (n : Str) : List Str := (ps.filter fun p => p.2 == n).map (·.1)
noncomputable def MgrR.In (P : Params) (h : Heap) (M : MgrR) : Prop := ∀ p ∈ M.all P, h.get? p.1 = some p.2
structure MgrR.Ok (prog : Program) (w : World) (M : MgrR) : Prop where
  dict : M.oar.IsDictOf (strKind prog w) M.kvs
  cls : M.oar.cls = .type "dict"
  sys : (M.ar == sysModules) = false
  muts : (M.d :: M.ar :: M.roles.map (·.dx)).Nodup
  lists : ∀ r ∈ M.roles, @Ne Nat r.rl M.al ∧ @Ne Nat r.ul M.al
  names : M.names.Nodup
  xs : (M.roles.map (·.x)).Nodup
  pairs : M.pairs.Nodup
  ends : ∀ p ∈ M.pairs, p.1 ∈ M.names ∧ p.2 ∈ M.names
  as : ∀ r ∈ M.roles, r.as = (succN M.pairs r.nm).map M.at
  bs : ∀ r ∈ M.roles, r.bs = (predN M.pairs r.nm).map M.at
section
variable {P : Params} {h h' : Heap} {M : MgrR} {prog : Program} {w : World}
theorem MgrR.In.a (I : M.In P h) : h.get? M.a = some (instObj 929 M.d) := I _ (.head _)
theorem MgrR.In.d (I : M.In P h) : h.get? M.d = some (M.dob P) := I _ (.tail _ (.head _))
theorem MgrR.In.al (I : M.In P h) : h.get? M.al = some M.lob := I _ (.tail _ (.tail _ (.head _)))
theorem MgrR.In.ar (I : M.In P h) : h.get? M.ar = some M.oar := I _ (.tail _ (.tail _ (.tail _ (.head _))))
theorem MgrR.mem_dic {r : RoleR} (hr : r ∈ M.roles) : r.dic P ∈ M.all P := .tail _ (.tail _ (.tail _ (.tail _ (List.mem_append_left _ (List.mem_map_of_mem hr)))))
theorem MgrR.mem_fix {r : RoleR} {p : Addr × Obj} (hr : r ∈ M.roles) (hp : p ∈ r.fix) : p ∈ M.all P := .tail _ (.tail _ (.tail _ (.tail _ (List.mem_append_right _ (List.mem_append_left _ (List.mem_flatMap.mpr ⟨r, hr, hp⟩))))))
theorem MgrR.mem_link {l : LinkR} (hl : l ∈ M.links) : l.ent ∈ M.all P := .tail _ (.tail _ (.tail _ (.tail _ (List.mem_append_right _ (List.mem_append_right _ (List.mem_map_of_mem hl))))))
theorem MgrR.In.dic (I : M.In P h) {r : RoleR} (hr : r ∈ M.roles) : h.get? r.dx = some (r.dob P) := I _ (M.mem_dic hr)
theorem MgrR.In.x (I : M.In P h) {r : RoleR} (hr : r ∈ M.roles) : h.get? r.x = some (instObj 814 r.dx) := I (r.x, instObj 814 r.dx) (M.mem_fix hr (.head _))
theorem MgrR.In.rl (I : M.In P h) {r : RoleR} (hr : r ∈ M.roles) : h.get? r.rl = some (listOf (r.as.map Value.ref).toArray r.na) := I (r.rl, listOf (r.as.map Value.ref).toArray r.na) (M.mem_fix hr (.tail _ (.head _)))
theorem MgrR.In.ul (I : M.In P h) {r : RoleR} (hr : r ∈ M.roles) : h.get? r.ul = some (listOf (r.bs.map Value.ref).toArray r.nb) := I (r.ul, listOf (r.bs.map Value.ref).toArray r.nb) (M.mem_fix hr (.tail _ (.tail _ (.head _))))
theorem MgrR.In.link (I : M.In P h) {l : LinkR} (hl : l ∈ M.links) : h.get? l.t = some l.ob := I _ (M.mem_link hl)
theorem MgrR.In.mk (a : h.get? M.a = some (instObj 929 M.d)) (d : h.get? M.d = some (M.dob P)) (al : h.get? M.al = some M.lob) (ar : h.get? M.ar = some M.oar) (dic : ∀ r ∈ M.roles, h.get? r.dx = some (r.dob P))
    (x : ∀ r ∈ M.roles, h.get? r.x = some (instObj 814 r.dx)) (rl : ∀ r ∈ M.roles, h.get? r.rl = some (listOf (r.as.map Value.ref).toArray r.na)) (ul : ∀ r ∈ M.roles, h.get? r.ul = some (listOf (r.bs.map Value.ref).toArray r.nb)) (link : ∀ l ∈ M.links, h.get? l.t = some l.ob) : M.In P h := by
  intro p hp
  refine memc hp ?_ fun hp => ?_
  · exact a
  refine memc hp ?_ fun hp => ?_
  · exact d
  refine memc hp ?_ fun hp => ?_
  · exact al
  refine memc hp ?_ fun hp => ?_
  · exact ar
  rcases List.mem_append.mp hp with hp | hp
  · obtain ⟨r, hr, rfl⟩ := List.mem_map.mp hp; exact dic r hr
  rcases List.mem_append.mp hp with hp | hp
  · obtain ⟨r, hr, hp⟩ := List.mem_flatMap.mp hp
    refine memc hp ?_ fun hp => ?_
    · exact x r hr
    refine memc hp ?_ fun hp => ?_
    · exact rl r hr
    rw [List.mem_singleton.mp hp]; exact ul r hr
  · obtain ⟨l, hl, rfl⟩ := List.mem_map.mp hp; exact link l hl
theorem MgrR.forall_all {R : Addr × Obj → Prop} (a : R (M.a, instObj 929 M.d)) (d : R (M.d, M.dob P)) (al : R (M.al, M.lob)) (ar : R (M.ar, M.oar)) (dic : ∀ r ∈ M.roles, R (r.dx, r.dob P))
    (x : ∀ r ∈ M.roles, R (r.x, instObj 814 r.dx)) (rl : ∀ r ∈ M.roles, R (r.rl, listOf (r.as.map Value.ref).toArray r.na)) (ul : ∀ r ∈ M.roles, R (r.ul, listOf (r.bs.map Value.ref).toArray r.nb)) (link : ∀ l ∈ M.links, R (l.t, l.ob)) : ∀ p ∈ M.all P, R p := by
  intro p hp
  refine memc hp ?_ fun hp => ?_
  · exact a
  refine memc hp ?_ fun hp => ?_
  · exact d
  refine memc hp ?_ fun hp => ?_
  · exact al
  refine memc hp ?_ fun hp => ?_
  · exact ar
  rcases List.mem_append.mp hp with hp | hp
  · obtain ⟨r, hr, rfl⟩ := List.mem_map.mp hp; exact dic r hr
  rcases List.mem_append.mp hp with hp | hp
  · obtain ⟨r, hr, hp⟩ := List.mem_flatMap.mp hp
    refine memc hp ?_ fun hp => ?_
    · exact x r hr
    refine memc hp ?_ fun hp => ?_
    · exact rl r hr
    rw [List.mem_singleton.mp hp]; exact ul r hr
  · obtain ⟨l, hl, rfl⟩ := List.mem_map.mp hp; exact link l hl
theorem MgrR.find {r : RoleR} (hn : M.names.Nodup) (hr : r ∈ M.roles) : M.roles.find? (fun q => q.nm == r.nm) = some r := by
  have gen : ∀ l : List RoleR, (l.map (·.nm)).Nodup → r ∈ l → l.find? (fun q => q.nm == r.nm) = some r := by
    intro l
    induction l with
    | nil => intro _ h; cases h
    | cons q l ih =>
      intro hn hr
      rw [List.map_cons, List.nodup_cons] at hn
      rw [List.find?_cons]
      refine memc hr ?_ fun hr => ?_
      · simp
      · have : (q.nm == r.nm) = false := by
          rw [beq_eq_false_iff_ne]
          exact fun e => hn.1 (e ▸ List.mem_map_of_mem hr)
        rw [this]
        exact ih hn.2 hr
  exact gen _ hn hr
theorem MgrR.at_of {r : RoleR} (hn : M.names.Nodup) (hr : r ∈ M.roles) : M.at r.nm = r.x := by
  unfold MgrR.at
  rw [M.find hn hr]
theorem MgrR.role_of {n : Str} (hn : n ∈ M.names) : ∃ r ∈ M.roles, r.nm = n := by
  obtain ⟨r, hr, e⟩ := List.mem_map.mp hn
  exact ⟨r, hr, e⟩
theorem mem_succN {ps : List (Str × Str)} {n b : Str} : b ∈ succN ps n ↔ (n, b) ∈ ps := by
  unfold succN
  rw [List.mem_map]
  constructor
  · rintro ⟨⟨x, y⟩, hp, rfl⟩
    obtain ⟨h1, h2⟩ := List.mem_filter.mp hp
    have : x = n := by simpa using h2
    rw [← this]; exact h1
  · intro h
    exact ⟨(n, b), List.mem_filter.mpr ⟨h, by simp⟩, rfl⟩
theorem mem_predN {ps : List (Str × Str)} {n a : Str} : a ∈ predN ps n ↔ (a, n) ∈ ps := by
  unfold predN
  rw [List.mem_map]
  constructor
  · rintro ⟨⟨x, y⟩, hp, rfl⟩
    obtain ⟨h1, h2⟩ := List.mem_filter.mp hp
    have : y = n := by simpa using h2
    rw [← this]; exact h1
  · intro h
    exact ⟨(a, n), List.mem_filter.mpr ⟨h, by simp⟩, rfl⟩
end
end Mine
end
section
open PySem PySem.W PyProof.Rows PySem.Calls
namespace Mine
section
variable {P : Params} {h h' : Heap} {M : MgrR} {prog : Program} {w : World}
noncomputable def MgrR.grow (M : MgrR) (o : Obj) (rs : List RoleR) : MgrR := { M with oar := o, roles := M.roles ++ rs }
theorem MgrR.grow_nil : M.grow M.oar [] = M := by unfold MgrR.grow; rw [List.append_nil]
theorem kvs_some {nm : Str} {v : Value} (e : valueAt M.kvs nm = some v) : ∃ r ∈ M.roles, r.nm = nm ∧ v = .ref r.x := by
  unfold valueAt MgrR.kvs at e
  rw [List.find?_map, Option.map_map] at e
  obtain ⟨r, hr, rfl⟩ := Option.map_eq_some_iff.mp e
  refine ⟨r, List.mem_of_find?_eq_some hr, ?_, rfl⟩
  have := List.find?_some hr
  simpa using this
theorem kvs_none {nm : Str} (e : valueAt M.kvs nm = none) : nm ∉ M.names := by
  unfold valueAt MgrR.kvs at e
  rw [Option.map_eq_none_iff, List.find?_eq_none] at e
  intro hm
  obtain ⟨r, hr, rfl⟩ := List.mem_map.mp hm
  exact e (r.nm, .ref r.x) (List.mem_map_of_mem hr) (by simp)
theorem off_cls {b : Addr} {o : Obj} {S : List Addr} (e : h.get? b = some o) (hS : ∀ c ∈ S, ∃ o', h.get? c = some o' ∧ o'.cls ≠ o.cls) : b ∉ S := fun q => by
  obtain ⟨o', e', n⟩ := hS b q
  rw [e] at e'; cases e'; exact n rfl
theorem MgrR.Ok.grow {x dx rl ul c1 c2 : Addr} {nm : Str} {t0 t1 t2 t3 t4 t5 : Tok} {o : Obj} (O : M.Ok prog w) (I : M.In P h) (hd : o.IsDictOf (strKind prog w) (M.kvs ++ [(nm, .ref x)])) (hc : o.cls = .type "dict") (hn : nm ∉ M.names)
    (x0 : h.get? x = none) (d0 : h.get? dx = none) (r0 : h.get? rl = none) (u0 : h.get? ul = none) : (M.grow o [⟨x, dx, rl, ul, c1, c2, nm, t0, t1, t2, t3, t4, t5, [], [], 0, 0⟩]).Ok prog w := by
  have ne : ∀ {b b' : Addr} {o' : Obj}, h.get? b = none → h.get? b' = some o' → @Ne Nat b b' := fun e e' q => by rw [show _ = _ from q, e'] at e; cases e
  have hsub : ∀ n, n ∈ M.names → n ∈ (M.grow o [⟨x, dx, rl, ul, c1, c2, nm, t0, t1, t2, t3, t4, t5, [], [], 0, 0⟩]).names := fun n hn => by
    unfold MgrR.names MgrR.grow; rw [List.map_append]; exact List.mem_append_left _ hn
  have hat : ∀ n, n ∈ M.names → (M.grow o [⟨x, dx, rl, ul, c1, c2, nm, t0, t1, t2, t3, t4, t5, [], [], 0, 0⟩]).at n = M.at n := fun n hn => by
    obtain ⟨r, hr, rfl⟩ := M.role_of hn
    unfold MgrR.at MgrR.grow
    rw [List.find?_append, M.find O.names hr]; rfl
  have hp : (M.grow o [⟨x, dx, rl, ul, c1, c2, nm, t0, t1, t2, t3, t4, t5, [], [], 0, 0⟩]).pairs = M.pairs := rfl
  have hs0 : succN M.pairs nm = [] := List.eq_nil_iff_forall_not_mem.mpr fun b hb => hn (O.ends _ (mem_succN.mp hb)).1
  have hp0 : predN M.pairs nm = [] := List.eq_nil_iff_forall_not_mem.mpr fun b hb => hn (O.ends _ (mem_predN.mp hb)).2
  refine ⟨?_, hc, O.sys, ?_, ?_, ?_, ?_, O.pairs, fun p hp => ⟨hsub _ (O.ends p hp).1, hsub _ (O.ends p hp).2⟩, ?_, ?_⟩
  · have : (M.grow o [⟨x, dx, rl, ul, c1, c2, nm, t0, t1, t2, t3, t4, t5, [], [], 0, 0⟩]).kvs = M.kvs ++ [(nm, .ref x)] := by
      unfold MgrR.kvs MgrR.grow; rw [List.map_append]; rfl
    rw [this]; exact hd
  · show (M.d :: M.ar :: List.map RoleR.dx (M.roles ++ [_])).Nodup
    rw [List.map_append, ← List.cons_append, ← List.cons_append]
    refine List.nodup_append.mpr ⟨O.muts, by simp, ?_⟩
    intro b hb c hc e
    rw [List.mem_singleton.mp hc] at e
    subst e
    rcases List.mem_cons.mp hb with hb | hb
    · exact ne d0 I.d hb
    rcases List.mem_cons.mp hb with hb | hb
    · exact ne d0 I.ar hb
    · obtain ⟨r, hr, e⟩ := List.mem_map.mp hb
      exact ne d0 (I.dic hr) e.symm
  · intro r hr
    rcases List.mem_append.mp hr with hr | hr
    · exact O.lists r hr
    · rw [List.mem_singleton.mp hr]; exact ⟨ne r0 I.al, ne u0 I.al⟩
  · show (List.map RoleR.nm (M.roles ++ [_])).Nodup
    rw [List.map_append]
    refine List.nodup_append.mpr ⟨O.names, by simp, ?_⟩
    intro b hb c hc e
    rw [List.mem_singleton.mp hc] at e
    have e' : b = nm := e
    exact hn (e' ▸ hb)
  · show (List.map RoleR.x (M.roles ++ [_])).Nodup
    rw [List.map_append]
    refine List.nodup_append.mpr ⟨O.xs, by simp, ?_⟩
    intro b hb c hc e
    rw [List.mem_singleton.mp hc] at e
    subst e
    obtain ⟨r, hr, e⟩ := List.mem_map.mp hb
    exact ne x0 (I.x hr) e.symm
  · intro r hr
    rw [hp]
    rcases List.mem_append.mp hr with hr | hr
    · rw [O.as r hr]
      exact List.map_congr_left fun n hn => (hat n (O.ends _ (mem_succN.mp hn)).2).symm
    · rw [List.mem_singleton.mp hr]
      dsimp only
      rw [hs0]; rfl
  · intro r hr
    rw [hp]
    rcases List.mem_append.mp hr with hr | hr
    · rw [O.bs r hr]
      exact List.map_congr_left fun n hn => (hat n (O.ends _ (mem_predN.mp hn)).1).symm
    · rw [List.mem_singleton.mp hr]
      dsimp only
      rw [hp0]; rfl
theorem MgrR.In.grow {x dx rl ul c1 c2 : Addr} {nm : Str} {t0 t1 t2 t3 t4 t5 : Tok} {o : Obj} (O : M.Ok prog w) (I : M.In P h) (k : KeepBut [M.ar] h h') (e0 : h'.get? M.ar = some o) (e1 : h'.get? x = some (instObj 814 dx))
    (e2 : h'.get? dx = some (roleDict P nm t0 t1 t2 t3 t4 t5 rl ul c1 c2)) (e3 : h'.get? rl = some (listOf #[] 0)) (e4 : h'.get? ul = some (listOf #[] 0)) :
    (M.grow o [⟨x, dx, rl, ul, c1, c2, nm, t0, t1, t2, t3, t4, t5, [], [], 0, 0⟩]).In P h' := by
  have off : ∀ {b : Addr} {o' : Obj}, h.get? b = some o' → o'.cls ≠ .type "dict" → b ∉ [M.ar] := fun e n => notin1 (ne_of_obj e I.ar (by rw [O.cls]; exact n))
  have mu := O.muts
  rw [List.nodup_cons, List.nodup_cons] at mu
  have new : ∀ {r : RoleR}, r ∈ M.roles ++ [⟨x, dx, rl, ul, c1, c2, nm, t0, t1, t2, t3, t4, t5, [], [], 0, 0⟩] → r ∈ M.roles ∨ r = ⟨x, dx, rl, ul, c1, c2, nm, t0, t1, t2, t3, t4, t5, [], [], 0, 0⟩ := fun hr => by
    rcases List.mem_append.mp hr with hr | hr
    · exact .inl hr
    · exact .inr (List.mem_singleton.mp hr)
  refine MgrR.In.mk (k _ _ (off I.a (by simp)) I.a) (k _ _ (notin1 fun e => mu.1 (e ▸ List.mem_cons_self)) I.d) (k _ _ (off I.al (by simp [MgrR.lob])) I.al) e0 ?_ ?_ ?_ ?_ (fun l hl => k _ _ (off (I.link hl) (by simp [LinkR.ob])) (I.link hl))
  · intro r hr
    rcases new hr with hr | rfl
    · exact k _ _ (notin1 fun e => mu.2.1 (List.mem_map.mpr ⟨r, hr, e⟩)) (I.dic hr)
    · exact e2
  · intro r hr
    rcases new hr with hr | rfl
    · exact k _ _ (off (I.x hr) (by simp)) (I.x hr)
    · exact e1
  · intro r hr
    rcases new hr with hr | rfl
    · exact k _ _ (off (I.rl hr) (by simp)) (I.rl hr)
    · exact e3
  · intro r hr
    rcases new hr with hr | rfl
    · exact k _ _ (off (I.ul hr) (by simp)) (I.ul hr)
    · exact e4
end
end Mine
end
section
open PySem PySem.W PyProof.Rows PySem.Calls
namespace Mine
section
variable {P : Params} {h h' g : Heap} {L : Addr} {m : Str → Option Value} {M : MgrR} {prog : Program} {w : World}
noncomputable def RoleR.ents (P : Params) (r : RoleR) : List (Addr × Obj) := r.dic P :: r.fix
noncomputable def MgrR.rest (P : Params) (M : MgrR) : List (Addr × Obj) :=
  (M.a, instObj 929 M.d) :: (M.d, M.dob P) :: (M.al, M.lob) :: (M.roles.map (RoleR.dic P) ++ (M.roles.flatMap RoleR.fix ++ M.links.map LinkR.ent))
theorem MgrR.rest_sub {p : Addr × Obj} (hp : p ∈ M.rest P) : p ∈ M.all P := by
  refine memc hp ?_ fun hp => ?_
  · exact .head _
  refine memc hp ?_ fun hp => ?_
  · exact .tail _ (.head _)
  refine memc hp ?_ fun hp => ?_
  · exact .tail _ (.tail _ (.head _))
  exact .tail _ (.tail _ (.tail _ (.tail _ hp)))
theorem MgrR.forall_rest {R : Addr × Obj → Prop} (a : R (M.a, instObj 929 M.d)) (d : R (M.d, M.dob P)) (al : R (M.al, M.lob)) (dic : ∀ r ∈ M.roles, R (r.dx, r.dob P))
    (x : ∀ r ∈ M.roles, R (r.x, instObj 814 r.dx)) (rl : ∀ r ∈ M.roles, R (r.rl, listOf (r.as.map Value.ref).toArray r.na)) (ul : ∀ r ∈ M.roles, R (r.ul, listOf (r.bs.map Value.ref).toArray r.nb)) (link : ∀ l ∈ M.links, R (l.t, l.ob)) : ∀ p ∈ M.rest P, R p := by
  intro p hp
  refine memc hp ?_ fun hp => ?_
  · exact a
  refine memc hp ?_ fun hp => ?_
  · exact d
  refine memc hp ?_ fun hp => ?_
  · exact al
  rcases List.mem_append.mp hp with hp | hp
  · obtain ⟨r, hr, rfl⟩ := List.mem_map.mp hp; exact dic r hr
  rcases List.mem_append.mp hp with hp | hp
  · obtain ⟨r, hr, hp⟩ := List.mem_flatMap.mp hp
    refine memc hp ?_ fun hp => ?_
    · exact x r hr
    refine memc hp ?_ fun hp => ?_
    · exact rl r hr
    rw [List.mem_singleton.mp hp]; exact ul r hr
  · obtain ⟨l, hl, rfl⟩ := List.mem_map.mp hp; exact link l hl
theorem MgrR.grow_grow {o1 o2 : Obj} {rs1 rs2 : List RoleR} : (M.grow o1 rs1).grow o2 rs2 = M.grow o2 (rs1 ++ rs2) := by
  unfold MgrR.grow; dsimp only; rw [List.append_assoc]
theorem MgrR.off_tab {T : Addr} {ps : Array Value} (O : M.Ok prog w) (I : M.In P h) (e : h.get? T = some (tabObj ps)) : ∀ p ∈ M.all P, @Ne Nat p.1 T := by
  refine M.forall_all (ne_of_obj I.a e (by simp)) (ne_of_obj I.d e (by simp [MgrR.dob])) (ne_of_obj I.al e (by simp [MgrR.lob])) (ne_of_obj I.ar e (by rw [O.cls]; simp)) (fun r hr => ne_of_obj (I.dic hr) e (by simp [RoleR.dob])) (fun r hr => ne_of_obj (I.x hr) e (by simp))
    (fun r hr => ne_of_obj (I.rl hr) e (by simp)) (fun r hr => ne_of_obj (I.ul hr) e (by simp)) fun l hl => ne_of_obj (I.link hl) e (by simp [LinkR.ob])
theorem MgrR.rest_ne (O : M.Ok prog w) (I : M.In P h) : ∀ p ∈ M.rest P, @Ne Nat p.1 M.ar := by
  have off : ∀ {b : Addr} {o' : Obj}, h.get? b = some o' → o'.cls ≠ .type "dict" → @Ne Nat b M.ar := fun e n => ne_of_obj e I.ar (by rw [O.cls]; exact n)
  have mu := O.muts
  rw [List.nodup_cons, List.nodup_cons] at mu
  exact M.forall_rest (off I.a (by simp)) (fun e => mu.1 (e ▸ List.mem_cons_self)) (off I.al (by simp [MgrR.lob])) (fun r hr e => mu.2.1 (List.mem_map.mpr ⟨r, hr, e⟩)) (fun r hr => off (I.x hr) (by simp)) (fun r hr => off (I.rl hr) (by simp)) (fun r hr => off (I.ul hr) (by simp))
    fun l hl => off (I.link hl) (by simp [LinkR.ob])
theorem MgrR.held {o : Obj} {rs : List RoleR} (hb : ∀ p ∈ M.rest P, h.get? p.1 = some p.2) (ho : h.get? M.ar = some o) (hR : ∀ q ∈ rs, ∀ p ∈ q.ents P, h.get? p.1 = some p.2) : (M.grow o rs).In P h := by
  have r1 : ∀ r ∈ M.roles, r.dic P ∈ M.rest P := fun r hr => .tail _ (.tail _ (.tail _ (List.mem_append_left _ (List.mem_map_of_mem hr))))
  have r2 : ∀ r ∈ M.roles, ∀ p ∈ r.fix, p ∈ M.rest P := fun r hr p hp => .tail _ (.tail _ (.tail _ (List.mem_append_right _ (List.mem_append_left _ (List.mem_flatMap.mpr ⟨r, hr, hp⟩)))))
  have r3 : ∀ l ∈ M.links, l.ent ∈ M.rest P := fun l hl => .tail _ (.tail _ (.tail _ (List.mem_append_right _ (List.mem_append_right _ (List.mem_map_of_mem hl)))))
  refine MgrR.In.mk (hb _ (.head _)) (hb _ (.tail _ (.head _))) (hb _ (.tail _ (.tail _ (.head _)))) ho ?_ ?_ ?_ ?_ (fun l hl => hb _ (r3 l hl))
  · intro r hr
    rcases List.mem_append.mp hr with hr | hr
    · exact hb _ (r1 r hr)
    · exact hR r hr _ (.head _)
  · intro r hr
    rcases List.mem_append.mp hr with hr | hr
    · exact hb (r.x, _) (r2 r hr _ (.head _))
    · exact hR r hr (r.x, _) (.tail _ (.head _))
  · intro r hr
    rcases List.mem_append.mp hr with hr | hr
    · exact hb (r.rl, _) (r2 r hr _ (.tail _ (.head _)))
    · exact hR r hr (r.rl, _) (.tail _ (.tail _ (.head _)))
  · intro r hr
    rcases List.mem_append.mp hr with hr | hr
    · exact hb (r.ul, _) (r2 r hr _ (.tail _ (.tail _ (.head _))))
    · exact hR r hr (r.ul, _) (.tail _ (.tail _ (.tail _ (.head _))))
theorem MgrR.In.ents (I : M.In P h) {r : RoleR} (hr : r ∈ M.roles) : ∀ p ∈ r.ents P, h.get? p.1 = some p.2 := fun p hp => by
  refine memc hp ?_ fun hp => ?_
  · exact I.dic hr
  · exact I _ (M.mem_fix hr hp)
theorem led_grow {ar : Addr} {o o' : Obj} {l R : List (Addr × Obj)} (F : Fr g L h m) (N : News g L h ((ar, o) :: l)) (kb : KeepBut [ar] h h') (e : h'.get? ar = some o') (hoff : ∀ p ∈ l, @Ne Nat p.1 ar) (new : ∀ p ∈ R, h'.get? p.1 = some p.2 ∧ h.get? p.1 = none) :
    Fr g L h' m ∧ News g L h' ((ar, o') :: (l ++ R)) := by
  have h0 := (N _ (.head _)).2.2
  refine ⟨Fr.but F kb (notin1 (Ne.symm (N _ (.head _)).2.1)) (fun a ha => by rw [List.mem_singleton.mp ha]; exact h0), fun p hp => ?_⟩
  refine memc hp ?_ fun hp => ?_
  · exact ⟨e, (N (ar, o) (.head _)).2⟩
  rcases List.mem_append.mp hp with hp | hp
  · have := N p (.tail _ hp)
    exact ⟨kb _ _ (notin1 (hoff p hp)) this.1, this.2⟩
  · exact ⟨(new p hp).1, Fr.neOf F (new p hp).2, none_of_keep F.keep (new p hp).2⟩
noncomputable def MgrR.roleAt (M : MgrR) (x : Addr) : Option RoleR := M.roles.find? (fun r => r.x == x)
noncomputable def MgrR.succ (M : MgrR) (x : Addr) : List Addr := match M.roleAt x with | some r => r.as | none => []
noncomputable def MgrR.nameOf (M : MgrR) (x : Addr) : Str := match M.roleAt x with | some r => r.nm | none => ""
theorem MgrR.roleAt_of (hx : (M.roles.map (·.x)).Nodup) {r : RoleR} (hr : r ∈ M.roles) : M.roleAt r.x = some r := by
  have gen : ∀ l : List RoleR, (l.map (·.x)).Nodup → r ∈ l → l.find? (fun q => q.x == r.x) = some r := by
    intro l
    induction l with
    | nil => intro _ h; cases h
    | cons q l ih =>
      intro hn hr
      rw [List.map_cons, List.nodup_cons] at hn
      rw [List.find?_cons]
      refine memc hr ?_ fun hr => ?_
      · simp
      · have : (q.x == r.x) = false := by
          rw [beq_eq_false_iff_ne]
          exact fun e => hn.1 (e ▸ List.mem_map_of_mem hr)
        rw [this]
        exact ih hn.2 hr
  exact gen _ hx hr
theorem MgrR.succ_of (hx : (M.roles.map (·.x)).Nodup) {r : RoleR} (hr : r ∈ M.roles) : M.succ r.x = r.as := by unfold MgrR.succ; rw [M.roleAt_of hx hr]
theorem MgrR.nameOf_of (hx : (M.roles.map (·.x)).Nodup) {r : RoleR} (hr : r ∈ M.roles) : M.nameOf r.x = r.nm := by unfold MgrR.nameOf; rw [M.roleAt_of hx hr]
theorem MgrR.Ok.nameOf_at (O : M.Ok prog w) {n : Str} (hn : n ∈ M.names) : M.nameOf (M.at n) = n := by
  obtain ⟨r, hr, rfl⟩ := M.role_of hn
  rw [M.at_of O.names hr, M.nameOf_of O.xs hr]
theorem MgrR.Ok.at_inj (O : M.Ok prog w) {n n' : Str} (hn : n ∈ M.names) (hn' : n' ∈ M.names) (e : M.at n = M.at n') : n = n' := by
  rw [← O.nameOf_at hn, e, O.nameOf_at hn']
theorem MgrR.Ok.succ_at (O : M.Ok prog w) {n : Str} (hn : n ∈ M.names) : M.succ (M.at n) = (succN M.pairs n).map M.at := by
  obtain ⟨r, hr, rfl⟩ := M.role_of hn
  rw [M.at_of O.names hr, M.succ_of O.xs hr, O.as r hr]
noncomputable def stepN (ps : List (Str × Str)) (acc : List Str) (n : Str) : List Str := acc ++ (succN ps n).filter (fun b => decide (b ∉ acc))
noncomputable def hasN (ps : List (Str × Str)) (nm : Str) : Nat → List Str → Bool
  | 0, _ => false
  | k + 1, ns => ns.any (fun n => nm == n) || hasN ps nm k (ns.foldl (stepN ps) [])
theorem MgrR.Ok.mem_at (O : M.Ok prog w) {n : Str} {acc : List Str} (hn : n ∈ M.names) (ha : ∀ b ∈ acc, b ∈ M.names) : M.at n ∈ acc.map M.at ↔ n ∈ acc := by
  rw [List.mem_map]
  exact ⟨fun ⟨b, hb, e⟩ => O.at_inj (ha b hb) hn e ▸ hb, fun h => ⟨n, h, rfl⟩⟩
theorem MgrR.Ok.step (O : M.Ok prog w) {n : Str} {acc : List Str} (hn : n ∈ M.names) (ha : ∀ b ∈ acc, b ∈ M.names) : stepL M.succ (acc.map M.at) (M.at n) = (stepN M.pairs acc n).map M.at := by
  unfold stepL stepN
  rw [O.succ_at hn, List.map_append, List.filter_map]
  congr 2
  refine List.filter_congr fun b hb => ?_
  have hbn : b ∈ M.names := (O.ends _ (mem_succN.mp hb)).2
  show decide (M.at b ∉ acc.map M.at) = decide (b ∉ acc)
  exact decide_eq_decide.mpr (not_congr (O.mem_at hbn ha))
theorem MgrR.Ok.stepN_names (O : M.Ok prog w) {n : Str} {acc : List Str} (ha : ∀ b ∈ acc, b ∈ M.names) : ∀ b ∈ stepN M.pairs acc n, b ∈ M.names := fun b hb => by
  rcases List.mem_append.mp hb with hb | hb
  · exact ha b hb
  · exact (O.ends _ (mem_succN.mp (List.mem_filter.mp hb).1)).2
theorem MgrR.Ok.steps (O : M.Ok prog w) : ∀ (ns acc : List Str), (∀ n ∈ ns, n ∈ M.names) → (∀ b ∈ acc, b ∈ M.names) → (ns.map M.at).foldl (stepL M.succ) (acc.map M.at) = (ns.foldl (stepN M.pairs) acc).map M.at ∧ ∀ b ∈ ns.foldl (stepN M.pairs) acc, b ∈ M.names
  | [], _, _, ha => ⟨rfl, ha⟩
  | n :: ns, acc, hn, ha => by
    have := O.steps ns (stepN M.pairs acc n) (fun b hb => hn b (.tail _ hb)) (O.stepN_names ha)
    rw [← O.step (hn n (.head _)) ha] at this
    exact this
theorem MgrR.Ok.has (O : M.Ok prog w) {nm : Str} : ∀ (k : Nat) (ns : List Str), (∀ n ∈ ns, n ∈ M.names) → hasL M.succ M.nameOf nm k (ns.map M.at) = hasN M.pairs nm k ns
  | 0, _, _ => rfl
  | k + 1, ns, hn => by
    obtain ⟨e, hm⟩ := O.steps ns [] hn (fun _ q => nomatch q)
    show ((ns.map M.at).any (fun x => nm == M.nameOf x) || hasL M.succ M.nameOf nm k ((ns.map M.at).foldl (stepL M.succ) ([].map M.at))) = (ns.any (fun n => nm == n) || hasN M.pairs nm k (ns.foldl (stepN M.pairs) []))
    rw [e, O.has k _ hm, List.any_map]
    congr 1
    rw [Bool.eq_iff_iff, List.any_eq_true, List.any_eq_true]
    refine exists_congr fun n => and_congr_right fun hn' => ?_
    show (nm == M.nameOf (M.at n)) = true ↔ _
    rw [O.nameOf_at (hn n hn')]
theorem MgrR.Ok.nodup_at (O : M.Ok prog w) {ns : List Str} (hn : ns.Nodup) (hs : ∀ n ∈ ns, n ∈ M.names) : (ns.map M.at).Nodup := by
  induction ns with
  | nil => exact List.nodup_nil
  | cons n ns ih =>
    rw [List.nodup_cons] at hn
    rw [List.map_cons, List.nodup_cons]
    exact ⟨fun q => hn.1 ((O.mem_at (hs n (.head _)) (fun b hb => hs b (.tail _ hb))).mp q), ih hn.2 fun b hb => hs b (.tail _ hb)⟩
theorem succN_nodup {ps : List (Str × Str)} (hp : ps.Nodup) (n : Str) : (succN ps n).Nodup := by
  unfold succN
  induction ps with
  | nil => exact List.nodup_nil
  | cons p ps ih =>
    rw [List.nodup_cons] at hp
    rw [List.filter_cons]
    split
    · rename_i hpn
      rw [List.map_cons, List.nodup_cons]
      refine ⟨fun q => hp.1 ?_, ih hp.2⟩
      obtain ⟨p', hp', e⟩ := List.mem_map.mp q
      obtain ⟨a1, a2⟩ := List.mem_filter.mp hp'
      have e1 : p'.1 = n := by simpa using a2
      have e2 : p.1 = n := by simpa using hpn
      have : p' = p := Prod.ext (e1.trans e2.symm) e
      exact this ▸ a1
    · exact ih hp.2
theorem predN_nodup {ps : List (Str × Str)} (hp : ps.Nodup) (n : Str) : (predN ps n).Nodup := by
  unfold predN
  induction ps with
  | nil => exact List.nodup_nil
  | cons p ps ih =>
    rw [List.nodup_cons] at hp
    rw [List.filter_cons]
    split
    · rename_i hpn
      rw [List.map_cons, List.nodup_cons]
      refine ⟨fun q => hp.1 ?_, ih hp.2⟩
      obtain ⟨p', hp', e⟩ := List.mem_map.mp q
      obtain ⟨a1, a2⟩ := List.mem_filter.mp hp'
      have e1 : p'.2 = n := by simpa using a2
      have e2 : p.2 = n := by simpa using hpn
      have : p' = p := Prod.ext e (e1.trans e2.symm)
      exact this ▸ a1
    · exact ih hp.2
end
end Mine
end
section
open PySem PySem.W PyProof.Rows PySem.Calls
namespace Mine
section
variable {P : Params} {h h' g : Heap} {M : MgrR} {prog : Program} {w : World}
noncomputable def MgrR.upd (M : MgrR) (f : RoleR → RoleR) (ps : List (Str × Str)) : MgrR := { M with roles := M.roles.map f, pairs := ps }
noncomputable def MgrR.relist (M : MgrR) (ls : List LinkR) (n : Nat) : MgrR := { M with links := ls, nal := n }
theorem MgrR.upd_at {f : RoleR → RoleR} {ps : List (Str × Str)} (hf : ∀ r, (f r).x = r.x ∧ (f r).dx = r.dx ∧ (f r).nm = r.nm) (n : Str) : (M.upd f ps).at n = M.at n := by
  unfold MgrR.at MgrR.upd
  dsimp only
  rw [List.find?_map]
  have : ((fun r : RoleR => r.nm == n) ∘ f) = fun r => r.nm == n := funext fun r => by show ((f r).nm == n) = _; rw [(hf r).2.2]
  rw [this]
  cases M.roles.find? (fun r => r.nm == n) with
  | none => rfl
  | some r => exact (hf r).1
theorem MgrR.Ok.relist (O : M.Ok prog w) (ls : List LinkR) (n : Nat) : (M.relist ls n).Ok prog w := ⟨O.dict, O.cls, O.sys, O.muts, O.lists, O.names, O.xs, O.pairs, O.ends, O.as, O.bs⟩
theorem MgrR.Ok.upd (O : M.Ok prog w) {f : RoleR → RoleR} {ps : List (Str × Str)} (hf : ∀ r, (f r).x = r.x ∧ (f r).dx = r.dx ∧ (f r).nm = r.nm) (hl : ∀ r ∈ M.roles, @Ne Nat (f r).rl M.al ∧ @Ne Nat (f r).ul M.al) (hp : ps.Nodup)
    (he : ∀ p ∈ ps, p.1 ∈ M.names ∧ p.2 ∈ M.names) (has : ∀ r ∈ M.roles, (f r).as = (succN ps r.nm).map M.at) (hbs : ∀ r ∈ M.roles, (f r).bs = (predN ps r.nm).map M.at) : (M.upd f ps).Ok prog w := by
  have e1 : (M.upd f ps).roles.map (·.dx) = M.roles.map (·.dx) := by
    show (M.roles.map f).map (·.dx) = _
    rw [List.map_map]; exact List.map_congr_left fun r _ => (hf r).2.1
  have e2 : (M.upd f ps).roles.map (·.x) = M.roles.map (·.x) := by
    show (M.roles.map f).map (·.x) = _
    rw [List.map_map]; exact List.map_congr_left fun r _ => (hf r).1
  have e3 : (M.upd f ps).names = M.names := by
    show (M.roles.map f).map (·.nm) = _
    rw [List.map_map]; exact List.map_congr_left fun r _ => (hf r).2.2
  have e4 : (M.upd f ps).kvs = M.kvs := by
    show (M.roles.map f).map (fun r => (r.nm, Value.ref r.x)) = _
    rw [List.map_map]; exact List.map_congr_left fun r _ => by show ((f r).nm, Value.ref (f r).x) = _; rw [(hf r).1, (hf r).2.2]
  refine ⟨by rw [e4]; exact O.dict, O.cls, O.sys, by rw [e1]; exact O.muts, ?_, by rw [e3]; exact O.names, by rw [e2]; exact O.xs, hp, by rw [e3]; exact he, ?_, ?_⟩
  · intro r hr
    obtain ⟨q, hq, rfl⟩ := List.mem_map.mp hr
    exact hl q hq
  · intro r hr
    obtain ⟨q, hq, rfl⟩ := List.mem_map.mp hr
    rw [has q hq, (hf q).2.2]
    exact List.map_congr_left fun n _ => (M.upd_at hf n).symm
  · intro r hr
    obtain ⟨q, hq, rfl⟩ := List.mem_map.mp hr
    rw [hbs q hq, (hf q).2.2]
    exact List.map_congr_left fun n _ => (M.upd_at hf n).symm
theorem MgrR.In.upd {f : RoleR → RoleR} {ps : List (Str × Str)} {S : List Addr} (O : M.Ok prog w) (I : M.In P h) (k : ∀ p ∈ M.all P, p.1 ∉ S → h'.get? p.1 = some p.2) (hS : ∀ b ∈ S, ∃ r ∈ M.roles, b = r.dx) (hf : ∀ r, (f r).x = r.x ∧ (f r).dx = r.dx ∧ (f r).nm = r.nm)
    (hd : ∀ r ∈ M.roles, h'.get? r.dx = some ((f r).dob P)) (hr : ∀ r ∈ M.roles, h'.get? (f r).rl = some (listOf ((f r).as.map Value.ref).toArray (f r).na)) (hu : ∀ r ∈ M.roles, h'.get? (f r).ul = some (listOf ((f r).bs.map Value.ref).toArray (f r).nb)) : (M.upd f ps).In P h' := by
  have off : ∀ {b : Addr} {o' : Obj}, h.get? b = some o' → o'.cls ≠ .type "dict" → b ∉ S := fun e n => off_cls e fun c hc => by
    obtain ⟨r, hr, rfl⟩ := hS c hc
    exact ⟨_, I.dic hr, fun q => n (by rw [← q]; rfl)⟩
  have mu := O.muts
  rw [List.nodup_cons, List.nodup_cons] at mu
  have offd : M.d ∉ S := fun q => by
    obtain ⟨r, hr, e⟩ := hS _ q
    exact mu.1 (List.mem_cons_of_mem _ (List.mem_map.mpr ⟨r, hr, e.symm⟩))
  have offr : M.ar ∉ S := fun q => by
    obtain ⟨r, hr, e⟩ := hS _ q
    exact mu.2.1 (List.mem_map.mpr ⟨r, hr, e.symm⟩)
  refine MgrR.In.mk (k (M.a, _) (.head _) (off I.a (by simp))) (k (M.d, M.dob P) (.tail _ (.head _)) offd) (k (M.al, M.lob) (.tail _ (.tail _ (.head _))) (off I.al (by simp [MgrR.lob]))) (k (M.ar, M.oar) (.tail _ (.tail _ (.tail _ (.head _)))) offr) ?_ ?_ ?_ ?_ (fun l hl => k l.ent (M.mem_link hl) (off (I.link hl) (by simp [LinkR.ob])))
  · intro r hr'
    obtain ⟨q, hq, rfl⟩ := List.mem_map.mp hr'
    rw [(hf q).2.1]; exact hd q hq
  · intro r hr'
    obtain ⟨q, hq, rfl⟩ := List.mem_map.mp hr'
    rw [(hf q).1, (hf q).2.1]; exact k (q.x, _) (M.mem_fix hq (.head _)) (off (I.x hq) (by simp))
  · intro r hr'
    obtain ⟨q, hq, rfl⟩ := List.mem_map.mp hr'
    exact hr q hq
  · intro r hr'
    obtain ⟨q, hq, rfl⟩ := List.mem_map.mp hr'
    exact hu q hq
noncomputable def setAs (x D : Addr) (as : List Addr) (n : Nat) (r : RoleR) : RoleR := if r.x = x then { r with rl := D, as := as, na := n } else r
noncomputable def setBs (x D : Addr) (bs : List Addr) (n : Nat) (r : RoleR) : RoleR := if r.x = x then { r with ul := D, bs := bs, nb := n } else r
theorem setAs_same {x D : Addr} {as : List Addr} {n : Nat} (r : RoleR) : (setAs x D as n r).x = r.x ∧ (setAs x D as n r).dx = r.dx ∧ (setAs x D as n r).nm = r.nm := by unfold setAs; split <;> exact ⟨rfl, rfl, rfl⟩
theorem setBs_same {x D : Addr} {bs : List Addr} {n : Nat} (r : RoleR) : (setBs x D bs n r).x = r.x ∧ (setBs x D bs n r).dx = r.dx ∧ (setBs x D bs n r).nm = r.nm := by unfold setBs; split <;> exact ⟨rfl, rfl, rfl⟩
end
end Mine
end
section
open PySem PySem.W PyProof.Rows PySem.Calls
open PySem.SeqAt PySem.MeetsSeq
open PySem.AutoSeq1 (wpAny_loadPart')
namespace Mine
theorem remove_loopAt (l : Addr) (items : Array Value) (n : Nat) (x : Value) (e : Value → Bool) (j : Nat) (hj : j < items.size) (hit : e items[j] = true) (k : Nat) (hs1 : items.size ≤ sizeLine) :
    ∀ i : Nat, j - i = k → i ≤ j → (∀ m (hm : m < items.size), i ≤ m → m < j → e items[m] = false) → Meets (Builtin.«list.remove.loop» ⟨[.ref l, x, rawInt i], []⟩)
      (fun A R s => s.heap.get? l = some { cls := .type "list", dict := none, data := .seq items n, slots := #[] } ∧ (∀ y, y ∈ items → EqAt A.in1 s y x (e y)) ∧ R (.ok (.ret .none)) { s with heap := s.heap.update l (Obj.mapSeq fun xs => xs.eraseIdxIfInBounds j) }) := by
  induction k with
  | zero =>
    intro i hk hij hno prog w A R s h
    obtain ⟨hp, g, d, tk, os⟩ := s; obtain ⟨hl, he, h⟩ := h
    have hij' : i = j := Nat.le_antisymm hij (Nat.le_of_sub_eq_zero hk)
    subst hij'
    wp_walk using wpAny_loadPart' hl
    have hi : items[((i : Nat) : Int).toNat]? = some items[i] := by simp [hj]
    rw [hi]
    refine wpAny_bind (he _ (Array.getElem_mem hj) prog w _ _ ?_)
    rw [hit]
    have hz' : (items.eraseIdxIfInBounds i).size ≤ sizeLine + 1 := Nat.le_trans (size_erased items _) (Nat.le_succ_of_le hs1)
    wp_walk using (wpAny_updateSeq hl rfl (hz := hs1) (_hz' := hz')), wpAny_loadPart' hl
    simpa using h
  | succ k ih =>
    intro i hk hij hno prog w A R s h
    obtain ⟨hp, g, d, tk, os⟩ := s; obtain ⟨hl, he, h⟩ := h
    have hlj : i < j := Nat.lt_of_sub_eq_succ hk
    have hlt : i < items.size := Nat.lt_trans hlj hj
    wp_walk using wpAny_loadPart' hl
    have hi : items[((i : Nat) : Int).toNat]? = some items[i] := by simp [hlt]
    have hc : ((i : Int) + 1) = ((i + 1 : Nat) : Int) := by push_cast; rfl
    rw [hi]
    refine wpAny_bind (he _ (Array.getElem_mem hlt) prog w _ _ ?_)
    rw [hno i hlt (Nat.le_refl _) hlj]
    wp_walk
    rw [hc]
    exact ⟨plainId_quiet plain_remove_loop _, codeAny_builtin entry_remove_loop (by
      rw [Around.under_plainId plain_remove_loop _]
      exact ih (i + 1) (by rw [Nat.sub_succ, hk]; rfl) hlj (fun m hm h1 h2 => hno m hm (Nat.le_of_succ_le h1) h2) prog w A R _ ⟨hl, he, h⟩)⟩
theorem list_removeAt (l : Addr) (items : Array Value) (n : Nat) (x : Value) (e : Value → Bool) (j : Nat) (hj : j < items.size)
    (hit : e items[j] = true) (hno : ∀ m (hm : m < items.size), m < j → e items[m] = false) (hs1 : items.size ≤ sizeLine) :
    Meets (Builtin.«list.remove» ⟨[.ref l, x], []⟩)
      (fun A R s => s.heap.get? l = some { cls := .type "list", dict := none, data := .seq items n, slots := #[] } ∧ (∀ y, y ∈ items → EqAt A.in1 s y x (e y)) ∧ R (.ok (.ret .none)) { s with heap := s.heap.update l (Obj.mapSeq fun xs => xs.eraseIdxIfInBounds j) }) := by
  intro prog w A R s h
  obtain ⟨hp, g, d, tk, os⟩ := s; obtain ⟨hl, he, h⟩ := h
  wp_walk using wpAny_loadPart' hl
  exact ⟨plainId_quiet plain_remove_loop _, codeAny_builtin entry_remove_loop (by
    rw [Around.under_plainId plain_remove_loop _]
    exact remove_loopAt l items n x e j hj hit _ hs1 0 rfl (Nat.zero_le _) (fun m hm _ h2 => hno m hm h2) prog w A R _ ⟨hl, he, h⟩)⟩
end Mine
end
section
open PySem PySem.W PyProof.Rows PySem.Calls
open PySem.SeqAt PySem.MeetsSeq
namespace Mine
noncomputable def pairD (a b : Str) : PyData := .tuple [.str a, .str b]
theorem pairD_eqv (a b c d : Str) : PyData.eqv (pairD a b) (pairD c d) = decide ((a, b) = (c, d)) := by
  have : PyData.eqv (pairD a b) (pairD c d) = (a == c && b == d) := by simp [pairD, PyData.eqv, PyData.eqvAll]
  rw [this, Bool.eq_iff_iff]
  simp
theorem link_reads {h : Heap} {l : LinkR} (e : h.get? l.t = some l.ob) : Reads h (.ref l.t) (pairD l.n1 l.n2) [] := .tuple e rfl rfl (.cons (.str _ _) (.cons (.str _ _) .nil))
theorem links_reads {h : Heap} : ∀ (ls : List LinkR), (∀ l ∈ ls, h.get? l.t = some l.ob) → ReadsAll h (ls.map fun l => Value.ref l.t) (ls.map fun l => pairD l.n1 l.n2) []
  | [], _ => .nil
  | l :: ls, hl => .cons (as := []) (link_reads (hl l (.head _))) (links_reads ls fun q hq => hl q (.tail _ hq))
theorem pairD_lay {a b : Str} (ha : PyData.strOk a = true) (hb : PyData.strOk b = true) : (pairD a b).canLay0 = true := by simp [pairD, PyData.canLay0, PyData.canLayAll0, ha, hb]
theorem links_lay : ∀ (ls : List LinkR), (∀ l ∈ ls, PyData.strOk l.n1 = true ∧ PyData.strOk l.n2 = true) → PyData.canLayAll0 (ls.map fun l => pairD l.n1 l.n2) = true
  | [], _ => rfl
  | l :: ls, hk => by
    have := links_lay ls fun q hq => hk q (.tail _ hq)
    simp only [List.map_cons, PyData.canLayAll0, this, Bool.and_true]
    exact pairD_lay (hk l (.head _)).1 (hk l (.head _)).2
section
variable {prog : Program} {w : World} {A : Around} {E : Value → Shared → Prop} {s : Shared}
theorem links_notIn {ls : List LinkR} {al : Addr} {nal : Nat} {x : LinkR} {Q : Value → Shared → Prop} (hal : s.heap.get? al = some (listOf (ls.map fun l => Value.ref l.t).toArray nal)) (hl : ∀ l ∈ ls, s.heap.get? l.t = some l.ob) (hT : s.heap.get? x.t = some x.ob) (hk : ∀ l ∈ ls, PyData.strOk l.n1 = true ∧ PyData.strOk l.n2 = true) (hx : PyData.strOk x.n1 = true ∧ PyData.strOk x.n2 = true)
    (hu : A.units + 50 < cLine) (h : Q (.bool (decide ((x.n1, x.n2) ∉ ls.map fun l => (l.n1, l.n2)))) s) : wpAny (model prog w) A (compareOp .NotIn (.ref x.t) (.ref al)) Q E s := by
  refine notIn_list_reads (xs := ls.map fun l => pairD l.n1 l.n2) (d := pairD x.n1 x.n2) (.list hal rfl rfl (by rw [List.toList_toArray]; exact links_reads ls hl)) (link_reads hT) (links_lay ls hk) (pairD_lay hx.1 hx.2) ?_ ?_
  · exact ar_u1 hu (Nat.min_le_right _ _) (by simp [pairD, PyData.depth, PyData.depthAll])
  · have : (!(ls.map fun l => pairD l.n1 l.n2).any fun y => PyData.eqv y (pairD x.n1 x.n2)) = decide ((x.n1, x.n2) ∉ ls.map fun l => (l.n1, l.n2)) := by
      rw [Bool.eq_iff_iff, decide_eq_true_eq, List.any_map, Bool.not_eq_true', List.any_eq_false]
      constructor
      · intro h1 h2
        obtain ⟨l, hl, e⟩ := List.mem_map.mp h2
        refine h1 l hl ?_
        have e' : PyData.eqv (pairD l.n1 l.n2) (pairD x.n1 x.n2) = true := by rw [pairD_eqv, decide_eq_true_eq]; exact e
        exact e'
      · intro h1 l hl h2
        refine h1 (List.mem_map.mpr ⟨l, hl, ?_⟩)
        have h2' : PyData.eqv (pairD l.n1 l.n2) (pairD x.n1 x.n2) = true := h2
        rw [pairD_eqv, decide_eq_true_eq] at h2'; exact h2'
    rw [this]; exact h
end
end Mine
namespace Mine
section
variable {prog : Program} {w : World} {A : Around} {E : Value → Shared → Prop} {s : Shared}
theorem erase_map {α β : Type} (f : α → β) : ∀ (l : List α) (j : Nat), (l.map f).eraseIdx j = (l.eraseIdx j).map f
  | [], _ => rfl
  | _ :: _, 0 => rfl
  | a :: l, j + 1 => congrArg (f a :: ·) (erase_map f l j)
theorem first_at (ps : List (Str × Str)) (q : Str × Str) (h : q ∈ ps) : ∃ j, ∃ hj : j < ps.length, ps[j] = q ∧ ∀ m (hm : m < ps.length), m < j → ps[m] ≠ q := by
  induction ps with
  | nil => cases h
  | cons p ps ih =>
    by_cases e : p = q
    · exact ⟨0, Nat.zero_lt_succ _, e, fun m _ h => absurd h (Nat.not_lt_zero _)⟩
    · rcases List.mem_cons.mp h with h | h
      · exact absurd h.symm e
      · obtain ⟨j, hj, h1, h2⟩ := ih h
        refine ⟨j + 1, Nat.succ_lt_succ hj, h1, fun m hm hlt => ?_⟩
        cases m with
        | zero => exact e
        | succ m => exact h2 m (Nat.lt_of_succ_lt_succ hm) (Nat.lt_of_succ_lt_succ hlt)
theorem erase_cut : ∀ (ps : List (Str × Str)) (j : Nat) (hj : j < ps.length), ps.Nodup → ps.eraseIdx j = ps.filter (· != (ps[j].1, ps[j].2))
  | p :: ps, 0, _, hn => by
    rw [List.nodup_cons] at hn
    show ps = (p :: ps).filter (· != (p.1, p.2))
    rw [List.filter_cons]
    simp only [bne_self_eq_false, Bool.false_eq_true, if_false]
    exact (List.filter_eq_self.mpr fun a ha => by
      rw [bne_iff_ne]
      intro e
      have e' : a = p := e
      exact hn.1 (e' ▸ ha)).symm
  | p :: ps, j + 1, hj, hn => by
    rw [List.nodup_cons] at hn
    have hj' : j < ps.length := Nat.lt_of_succ_lt_succ hj
    show p :: ps.eraseIdx j = (p :: ps).filter (· != (ps[j].1, ps[j].2))
    rw [List.filter_cons]
    have : (p != (ps[j].1, ps[j].2)) = true := by rw [bne_iff_ne]; exact fun e => hn.1 (e ▸ List.getElem_mem hj')
    rw [if_pos this, erase_cut ps j hj' hn.2]
theorem links_remove {ls : List LinkR} {al : Addr} {nal : Nat} {x : LinkR} {Q : Value → Shared → Prop} (hal : s.heap.get? al = some (listOf (ls.map fun l => Value.ref l.t).toArray nal)) (hl : ∀ l ∈ ls, s.heap.get? l.t = some l.ob) (hT : s.heap.get? x.t = some x.ob)
    (hk : ∀ l ∈ ls, PyData.strOk l.n1 = true ∧ PyData.strOk l.n2 = true) (hx : PyData.strOk x.n1 = true ∧ PyData.strOk x.n2 = true)
    (hu : A.units + 50 < cLine) (hin : (x.n1, x.n2) ∈ ls.map fun l => (l.n1, l.n2)) (hn : (ls.map fun l => (l.n1, l.n2)).Nodup) (hsz : ls.length ≤ 1000)
    (h : ∀ (ls' : List LinkR) (cap : Nat) (h' : Heap), (∀ l ∈ ls', l ∈ ls) → ls'.map (fun l => (l.n1, l.n2)) = (ls.map fun l => (l.n1, l.n2)).filter (· != (x.n1, x.n2)) → ls'.length ≤ ls.length → h'.get? al = some (listOf (ls'.map fun l => Value.ref l.t).toArray cap) → KeepBut [al] s.heap h' → Q .none { s with heap := h' }) :
    wpAny (model prog w) A (call (.builtin "list.remove") [.ref al, .ref x.t]) Q E s := by
  obtain ⟨j, hj, hj1, hj2⟩ := first_at _ _ hin
  have hjl : j < ls.length := by rwa [List.length_map] at hj
  have rd : ∀ i (hi : i < ls.length), readOf s.heap (.ref ls[i].t) = pairD ls[i].n1 ls[i].n2 := fun i hi => readOf_eq (pairD_lay (hk _ (List.getElem_mem hi)).1 (hk _ (List.getElem_mem hi)).2) (link_reads (hl _ (List.getElem_mem hi)))
  refine call_meets PySem.F.slot_list_remove ⟨_, hal, rfl⟩ PySem.F.entry_list_remove (PySem.F.args_list_remove_2 _ _)
    (list_removeAt al (ls.map fun l => Value.ref l.t).toArray nal (.ref x.t) (fun y => PyData.eqv (readOf s.heap y) (pairD x.n1 x.n2)) j (by simpa using hjl) ?_ ?_ (by rw [List.size_toArray, List.length_map, sizeLine_eq]; omega)) ⟨hal, ?_, ?_⟩
  · simp only [List.getElem_toArray, List.getElem_map]
    rw [rd j hjl, pairD_eqv, decide_eq_true_eq]
    rw [List.getElem_map] at hj1; exact hj1
  · intro m hm hlt
    have hm' : m < ls.length := by simpa using hm
    simp only [List.getElem_toArray, List.getElem_map]
    rw [rd m hm', pairD_eqv, decide_eq_false_iff_not]
    have := hj2 m (by rw [List.length_map]; exact hm') hlt
    rw [List.getElem_map] at this; exact this
  · refine items_eqAt (by rw [List.toList_toArray]; exact links_reads ls hl) (link_reads hT) (links_lay ls hk) (pairD_lay hx.1 hx.2) ?_
    exact ar_u1 hu (Nat.min_le_right _ _) (by simp [pairD, PyData.depth, PyData.depthAll])
  · have eD := Heap.get?_update_self (Obj.mapSeq fun xs => xs.eraseIdxIfInBounds j) hal rfl
    have eA : (ls.map fun l => Value.ref l.t).toArray.eraseIdxIfInBounds j = ((ls.eraseIdx j).map fun l => Value.ref l.t).toArray := by
      apply Array.toList_inj.mp
      rw [Array.toList_eraseIdxIfInBounds, List.toList_toArray, List.toList_toArray, erase_map]
    obtain ⟨cap, ec⟩ : ∃ cap, Obj.mapSeq (fun xs => xs.eraseIdxIfInBounds j) (listOf (ls.map fun l => Value.ref l.t).toArray nal) = listOf ((ls.map fun l => Value.ref l.t).toArray.eraseIdxIfInBounds j) cap := ⟨_, rfl⟩
    rw [ec, eA] at eD
    refine h (ls.eraseIdx j) cap _ (fun l hl' => List.mem_of_mem_eraseIdx hl') ?_ (List.length_eraseIdx_le ..) eD (fun b o hb e => (Heap.get?_update_other _ _ (fun q => hb (List.mem_singleton.mpr q.symm))).trans e)
    have := erase_cut _ j hj hn
    rw [hj1] at this
    rw [← this, erase_map]
end
end Mine
end
section
open PySem PySem.W PyProof.Rows PySem.Calls
namespace Mine
noncomputable def Rch (ps : List (Str × Str)) : Nat → Str → Str → Prop
  | 0, a, b => a = b
  | j + 1, a, b => ∃ c, (a, c) ∈ ps ∧ Rch ps j c b
theorem Rch_snoc {ps : List (Str × Str)} : ∀ {j : Nat} {a b : Str}, Rch ps (j + 1) a b ↔ ∃ c, Rch ps j a c ∧ (c, b) ∈ ps
  | 0, a, b => ⟨fun ⟨c, h, e⟩ => ⟨a, rfl, (show c = b from e) ▸ h⟩, fun ⟨c, e, h⟩ => ⟨b, (show a = c from e) ▸ h, rfl⟩⟩
  | j + 1, a, b => by
    constructor
    · rintro ⟨c, h, r⟩
      obtain ⟨d, r', h'⟩ := Rch_snoc.mp r
      exact ⟨d, ⟨c, h, r'⟩, h'⟩
    · rintro ⟨d, ⟨c, h, r'⟩, h'⟩
      exact ⟨c, h, Rch_snoc.mpr ⟨d, r', h'⟩⟩
theorem mem_stepN {ps : List (Str × Str)} {n b : Str} {acc : List Str} : b ∈ stepN ps acc n ↔ b ∈ acc ∨ (n, b) ∈ ps := by
  unfold stepN
  rw [List.mem_append, List.mem_filter, mem_succN, decide_eq_true_eq]
  by_cases h : b ∈ acc <;> simp [h]
theorem mem_stepsN {ps : List (Str × Str)} {b : Str} : ∀ {ns acc : List Str}, b ∈ ns.foldl (stepN ps) acc ↔ b ∈ acc ∨ ∃ n ∈ ns, (n, b) ∈ ps
  | [], acc => by simp
  | n :: ns, acc => by
    rw [List.foldl_cons, mem_stepsN, mem_stepN]
    simp [or_assoc]
theorem hasN_iff {ps : List (Str × Str)} {b : Str} : ∀ {k : Nat} {ns : List Str}, hasN ps b k ns = true ↔ ∃ j, j < k ∧ ∃ n ∈ ns, Rch ps j n b
  | 0, ns => by simp [hasN]
  | k + 1, ns => by
    rw [hasN, Bool.or_eq_true, hasN_iff, List.any_eq_true]
    constructor
    · rintro (⟨n, hn, e⟩ | ⟨j, hj, n, hn, r⟩)
      · exact ⟨0, Nat.succ_pos _, n, hn, (eq_of_beq e).symm⟩
      · rcases mem_stepsN.mp hn with h | ⟨a, ha, h⟩
        · cases h
        · exact ⟨j + 1, Nat.succ_lt_succ hj, a, ha, n, h, r⟩
    · rintro ⟨j, hj, n, hn, r⟩
      cases j with
      | zero => exact .inl ⟨n, hn, beq_iff_eq.mpr (show n = b from r).symm⟩
      | succ j =>
        obtain ⟨c, h, r⟩ := r
        exact .inr ⟨j, Nat.lt_of_succ_lt_succ hj, c, mem_stepsN.mpr (.inr ⟨n, hn, h⟩), r⟩
theorem mem_nearStep {ps : List (Str × Str)} {near : List Str} (hn : near.Nodup) {c : Str} : c ∈ nearStep ps near ↔ c ∈ near ∨ ∃ a ∈ near, (a, c) ∈ ps := by
  unfold nearStep
  rw [(fold_addN _ _ hn).2, List.mem_map]
  constructor
  · rintro (h | ⟨⟨x, y⟩, hp, rfl⟩)
    · exact .inl h
    · obtain ⟨h1, h2⟩ := List.mem_filter.mp hp
      exact .inr ⟨x, of_decide_eq_true h2, h1⟩
  · rintro (h | ⟨a, ha, h⟩)
    · exact .inl h
    · exact .inr ⟨(a, c), List.mem_filter.mpr ⟨h, decide_eq_true ha⟩, rfl⟩
theorem mem_nearN {ps : List (Str × Str)} {a c : Str} : ∀ {k : Nat}, c ∈ nearN ps k [a] ↔ ∃ j, j ≤ k ∧ Rch ps j a c
  | 0 => by
    rw [nearN, List.mem_singleton]
    constructor
    · rintro rfl; exact ⟨0, Nat.le_refl _, rfl⟩
    · rintro ⟨j, hj, r⟩
      obtain rfl := Nat.le_zero.mp hj
      exact (show a = c from r).symm
  | k + 1 => by
    rw [nearN, mem_nearStep (nearN_ok ps a k).1, mem_nearN]
    constructor
    · rintro (⟨j, hj, r⟩ | ⟨b, hb, h⟩)
      · exact ⟨j, Nat.le_succ_of_le hj, r⟩
      · obtain ⟨j, hj, r⟩ := mem_nearN.mp hb
        exact ⟨j + 1, Nat.succ_le_succ hj, Rch_snoc.mpr ⟨b, r, h⟩⟩
    · rintro ⟨j, hj, r⟩
      rcases Nat.lt_or_ge j (k + 1) with h | h
      · exact .inl ⟨j, Nat.le_of_lt_succ h, r⟩
      · obtain rfl : j = k + 1 := Nat.le_antisymm hj h
        obtain ⟨b, r, h⟩ := Rch_snoc.mp r
        exact .inr ⟨b, mem_nearN.mpr ⟨k, Nat.le_refl _, r⟩, h⟩
theorem hasN_near (ps : List (Str × Str)) (a b : Str) (k : Nat) : hasN ps b k [a] = (decide (0 < k) && decide (b ∈ nearN ps (k - 1) [a])) := by
  rw [Bool.eq_iff_iff, hasN_iff, Bool.and_eq_true, decide_eq_true_eq, decide_eq_true_eq, mem_nearN]
  constructor
  · rintro ⟨j, hj, n, hn, r⟩
    obtain rfl := List.mem_singleton.mp hn
    exact ⟨Nat.lt_of_le_of_lt (Nat.zero_le _) hj, j, Nat.le_sub_one_of_lt hj, r⟩
  · rintro ⟨h0, j, hj, r⟩
    exact ⟨j, by omega, a, .head _, r⟩
theorem chain_R {nm : Nat → Str} {n : Nat} (inj : ∀ i, i ≤ n → ∀ j, j ≤ n → nm i = nm j → i = j) : ∀ (j lo hi : Nat), lo ≤ n → hi ≤ n → (Rch ((List.range n).map fun i => (nm i, nm (i + 1))) j (nm lo) (nm hi) ↔ hi = lo + j)
  | 0, lo, hi, hl, hh => ⟨fun e => (inj _ hl _ hh e).symm, fun e => (congrArg nm e).symm⟩
  | j + 1, lo, hi, hl, hh => by
    constructor
    · rintro ⟨c, h, r⟩
      obtain ⟨i, hi', e⟩ := List.mem_map.mp h
      obtain ⟨e1, e2⟩ := Prod.mk.inj e
      have hin := List.mem_range.mp hi'
      have := inj _ (Nat.le_of_lt hin) _ hl e1
      subst this
      rw [← e2] at r
      have r1 := (chain_R inj j _ _ hin hh).mp r
      omega
    · rintro rfl
      refine ⟨nm (lo + 1), List.mem_map.mpr ⟨lo, List.mem_range.mpr (by omega), rfl⟩, (chain_R inj j _ _ (by omega) hh).mpr (by omega)⟩
theorem chain_has {nm : Nat → Str} {n lo hi k : Nat} (inj : ∀ i, i ≤ n → ∀ j, j ≤ n → nm i = nm j → i = j) (hl : lo ≤ n) (h : hi ≤ n) : hasN ((List.range n).map fun i => (nm i, nm (i + 1))) (nm hi) k [nm lo] = (decide ((0 : Int) ≤ (hi : Int) - lo) && decide ((hi : Int) - lo < k)) := by
  rw [Bool.eq_iff_iff, hasN_iff, Bool.and_eq_true, decide_eq_true_eq, decide_eq_true_eq]
  constructor
  · rintro ⟨j, hj, m, hm, r⟩
    obtain rfl := List.mem_singleton.mp hm
    have r1 := (chain_R inj j lo hi hl h).mp r
    omega
  · rintro ⟨h1, h2⟩
    exact ⟨hi - lo, by omega, _, .head _, (chain_R inj _ lo hi hl h).mpr (by omega)⟩
noncomputable def nmC (i : Nat) : Str := Str.ofString "n" ++ Str.ofString (toString (i : Int))
noncomputable def nmCs : List Str := (List.range 15).map nmC
theorem nmC_inj : ∀ i, i ≤ 14 → ∀ j, j ≤ 14 → nmC i = nmC j → i = j := by
  have h : ∀ i < 15, ∀ j < 15, nmC i = nmC j → i = j := by decide +kernel
  exact fun i hi j hj => h i (Nat.lt_succ_of_le hi) j (Nat.lt_succ_of_le hj)
theorem nmC_mem {i : Nat} (h : i ≤ 14) : nmC i ∈ nmCs := List.mem_map_of_mem (List.mem_range.mpr (Nat.lt_succ_of_le h))
end Mine
end
local macro_rules | `(tactic| k_enter) => `(tactic| (kp_kind "rest"; refine' enterR ?_; k_whole))
namespace Mine
open PyProof.Rows.LCg PyProof.Rows.LCt
section
variable {prog : Program} {w : World} {p : Program} {loose : List Str} {mean : ExcName → Option Value} {mg mb : Str → Option Value}
  {A : Around} {h₀ : Heap} {L : Addr} {m : Str → Option Value} {s : Shared} {Q : Value → Shared → Prop} {E : Value → Shared → Prop}
theorem get_roleM (H : Here w p loose mean mg mb A L h₀ 60 300) (F : Fr h₀ L s.heap m) {M : MgrR} {nm : Str} {t0 : Tok} (O : M.Ok prog w) (I : M.In w.params s.heap) (hL : @Ne Nat M.ar L) (h0 : h₀.get? M.ar = none) (hsz : M.roles.length ≤ 1000)
   (ret : ∀ o rs r h' tk', (M.grow o rs).Ok prog w → (M.grow o rs).In w.params h' → r ∈ M.roles ++ rs → r.nm = nm → rs.length ≤ 1 → KeepBut [M.ar] s.heap h' →
      (∀ q ∈ rs, q = r ∧ nm ∉ M.names ∧ s.heap.get? q.x = none ∧ s.heap.get? q.dx = none ∧ s.heap.get? q.rl = none ∧ s.heap.get? q.ul = none) → Q (.ref r.x) { s with heap := h', toks := tk' }) :
   wpAny (model prog w) A (call (.ref 861) [.ref M.a, .str nm t0]) Q E s := by
  have N : News h₀ L s.heap [(M.ar, M.oar)] := fun p hp => by rw [List.mem_singleton.mp hp]; exact ⟨I.ar, hL, h0⟩
  have mu := O.muts
  rw [List.nodup_cons] at mu
  refine get_role_raw H F N O.dict O.sys I.a I.d (ne_of_obj I.a I.ar (by rw [O.cls]; simp)) (fun e => mu.1 (e ▸ List.mem_cons_self)) (by unfold MgrR.kvs; rw [List.length_map]; exact hsz) ?_ ?_
  · intro v h' tk' hv k
    obtain ⟨r, hr, e, rfl⟩ := kvs_some hv
    refine ret M.oar [] r h' tk' (by rw [MgrR.grow_nil]; exact O) (by rw [MgrR.grow_nil]; exact fun p hp => k _ _ (I p hp)) (by rw [List.append_nil]; exact hr) e (Nat.zero_le _) k.but fun _ q => nomatch q
  · intro x dr rl ul c1 c2 v1 v2 v3 v4 v5 o' h' tk' hv kb e0 hd e1 e2 e3 e4 n1 n2 n3 n4 n5
    have hc : o'.cls = .type "dict" := by
      obtain ⟨es, ep, ex, _⟩ := hd
      exact ex.1
    refine ret o' [⟨x, dr, rl, ul, c1, c2, nm, t0, v1, v2, v3, v4, v5, [], [], 0, 0⟩] _ h' tk' (O.grow I hd hc (kvs_none hv) n1 n2 n3 n4) (MgrR.In.grow O I kb e0 e1 e2 e3 e4) (List.mem_append_right _ (.head _)) rfl (Nat.le_refl _) kb fun q hq => ?_
    rw [List.mem_singleton.mp hq]
    exact ⟨rfl, kvs_none hv, n1, n2, n3, n4⟩
theorem get_role_thereM (H : Here w p loose mean mg mb A L h₀ 60 300) (F : Fr h₀ L s.heap m) {M : MgrR} {nm : Str} {t0 : Tok} (O : M.Ok prog w) (I : M.In w.params s.heap) (hL : @Ne Nat M.ar L) (h0 : h₀.get? M.ar = none) (hsz : M.roles.length ≤ 1000) (hn : nm ∈ M.names)
   (ret : ∀ r h' tk', r ∈ M.roles → r.nm = nm → Keep s.heap h' → Q (.ref r.x) { s with heap := h', toks := tk' }) :
   wpAny (model prog w) A (call (.ref 861) [.ref M.a, .str nm t0]) Q E s := by
  have N : News h₀ L s.heap [(M.ar, M.oar)] := fun p hp => by rw [List.mem_singleton.mp hp]; exact ⟨I.ar, hL, h0⟩
  have mu := O.muts
  rw [List.nodup_cons] at mu
  refine get_role_raw H F N O.dict O.sys I.a I.d (ne_of_obj I.a I.ar (by rw [O.cls]; simp)) (fun e => mu.1 (e ▸ List.mem_cons_self)) (by unfold MgrR.kvs; rw [List.length_map]; exact hsz) ?_ ?_
  · intro v h' tk' hv k
    obtain ⟨r, hr, e, rfl⟩ := kvs_some hv
    exact ret r h' tk' hr e k
  · intro x dr rl ul c1 c2 v1 v2 v3 v4 v5 o' h' tk' hv
    exact absurd hn (kvs_none hv)
end
end Mine
namespace Mine
open PyProof.Rows.LCg PyProof.Rows.LCt
section
variable {prog : Program} {w : World} {p : Program} {loose : List Str} {mean : ExcName → Option Value} {mg mb : Str → Option Value}
  {A : Around} {h₀ : Heap} {L : Addr} {m : Str → Option Value} {s : Shared} {Q : Value → Shared → Prop} {E : Value → Shared → Prop}
theorem has_linkM (H : Here w p loose mean mg mb A L h₀ 600 9000) (F : Fr h₀ L s.heap m) (hG : AllBare s.gens) {M : MgrR} {n1 n2 : Str} {k1 k2 : Tok} {ps : Array Value} {k : Nat} (htr : TriplesOk ps.toList) (O : M.Ok prog w) (I : M.In w.params s.heap) (hsz : M.roles.length ≤ 90)
   (hlv : M.lv = (k : Int)) (hk : k ≤ 20) (N : News h₀ L s.heap [(M.ar, M.oar), (906, tabObj ps)])
   (ret : ∀ b o rs s' ps', b = hasN M.pairs n2 k [n1] → (M.grow o rs).Ok prog w → (M.grow o rs).In w.params s'.heap → (∀ q ∈ rs, (q.nm = n1 ∨ q.nm = n2) ∧ s.heap.get? q.x = none ∧ s.heap.get? q.dx = none ∧ s.heap.get? q.rl = none ∧ s.heap.get? q.ul = none) →
     KeepBut [M.ar, 906] s.heap s'.heap → s'.heap.get? 906 = some (tabObj ps') → TriplesOk ps'.toList → AllBare s'.gens → s'.os = s.os → Q (.bool b) s') :
   wpAny (model prog w) A (call (.ref 904) [.ref M.a, .str n1 k1, .str n2 k2]) Q E s := by
  have i906 : s.heap.get? 906 = some (tabObj ps) := News.get N (.tail _ (.head _))
  have hne : @Ne Nat M.ar 906 := ne_of_obj I.ar i906 (by rw [O.cls]; simp)
  have hrest := MgrR.rest_ne O I
  have htab := MgrR.off_tab O I i906
  refine H.openA ?_
  clear H
  intro A₀ base outer env dp gd un B hf hke hdp hun X T
  refine wpAny_call ?_
  k_dflt k_enter
  intro D' g' L' h' l1 FG' F' N' B' X' T' kG'
  k_lt l1
  dsimp only
  have hb : ∀ p ∈ M.rest w.params, g'.get? p.1 = some p.2 := fun p hp => kG' _ _ (I p (M.rest_sub hp)) (notin2 (hrest p hp) (htab p (M.rest_sub hp)))
  have ba : g'.get? M.a = some (instObj 929 M.d) := hb _ (.head _)
  have bd : g'.get? M.d = some (mgrDict w.params M.lv M.tl M.u1 M.u2 M.u3 M.u4 M.u5 M.al M.ar) := hb (M.d, M.dob w.params) (.tail _ (.head _))
  have kb0 : ∀ h2 : Heap, (∀ b o, g'.get? b = some o → h2.get? b = some o) → KeepBut [M.ar, 906] s.heap h2 := fun h2 k b o hb' e => k b o (kG' b o e hb')
  clear i906 hrest htab
  k_steps
  refine Stop.mk ?_
  have N1 := newsSub (news' := [(M.ar, M.oar), (906, tabObj ps)]) N' (List.forall_mem_cons.mpr ⟨by k_mem, List.forall_mem_cons.mpr ⟨by k_mem, List.forall_mem_nil _⟩⟩)
  have I0 : (M.grow M.oar []).In w.params h' := MgrR.held (fun p hp => Fr.keep F' _ _ (hb p hp)) (News.get N1 (.head _)) fun _ q => nomatch q
  rw [MgrR.grow_nil] at I0
  refine get_roleM ⟨⟨_, _, _, _, B', rfl, rfl, rfl⟩, rfl, by k_room, by k_units, X', T'⟩ F' O I0 (N1 _ (.head _)).2.1 (N1 _ (.head _)).2.2 (by omega) ?_
  intro o1 rs1 r1 h1 tk1 O1 I1 hr1 hn1 hl1 kb1 fr1
  have back : ∀ {h2 : Heap} {m2 : Str → Option Value} {o2 : Obj} {l2 : List (Addr × Obj)}, Fr g' L' h2 m2 → News g' L' h2 ((M.ar, o2) :: (906, tabObj ps) :: l2) → ∀ b, h2.get? b = none → s.heap.get? b = none := fun F2 N2 b hb' => by
    cases e : s.heap.get? b with
    | none => rfl
    | some ob =>
      have q1 : b ≠ M.ar := fun q => by rw [q, (N2 _ (.head _)).1] at hb'; cases hb'
      have q2 : b ≠ 906 := fun q => by rw [q, (N2 _ (.tail _ (.head _))).1] at hb'; cases hb'
      have := F2.keep _ _ (kG' b ob e (notin2 q1 q2))
      rw [hb'] at this; cases this
  have new1 : ∀ p ∈ rs1.flatMap (RoleR.ents w.params), h1.get? p.1 = some p.2 ∧ h'.get? p.1 = none := fun p hp => by
    obtain ⟨q, hq, hp⟩ := List.mem_flatMap.mp hp
    refine ⟨I1.ents (List.mem_append_right _ hq) p hp, ?_⟩
    obtain ⟨_, _, f1, f2, f3, f4⟩ := fr1 q hq
    refine memc hp ?_ fun hp => ?_
    · exact f2
    refine memc hp ?_ fun hp => ?_
    · exact f1
    refine memc hp ?_ fun hp => ?_
    · exact f3
    rw [List.mem_singleton.mp hp]; exact f4
  have fr1' : ∀ q ∈ rs1, (q.nm = n1 ∨ q.nm = n2) ∧ s.heap.get? q.x = none ∧ s.heap.get? q.dx = none ∧ s.heap.get? q.rl = none ∧ s.heap.get? q.ul = none := fun q hq => by
    obtain ⟨e, _, f1, f2, f3, f4⟩ := fr1 q hq
    exact ⟨.inl (e ▸ hn1), back F' N1 _ f1, back F' N1 _ f2, back F' N1 _ f3, back F' N1 _ f4⟩
  have r1ne : ∀ p ∈ rs1.flatMap (RoleR.ents w.params), @Ne Nat p.1 M.ar ∧ @Ne Nat p.1 906 := fun p hp => ⟨(fun q => by have := (new1 p hp).2; rw [show p.1 = M.ar from q, (N1 _ (.head _)).1] at this; cases this),
    (fun q => by have := (new1 p hp).2; rw [show p.1 = 906 from q, (N1 _ (.tail _ (.head _))).1] at this; cases this)⟩
  obtain ⟨F1, N2⟩ := led_grow (R := rs1.flatMap (RoleR.ents w.params)) F' N1 kb1 I1.ar (fun p hp => by rw [List.mem_singleton.mp hp]; exact Ne.symm hne) new1
  generalize hR1 : rs1.flatMap (RoleR.ents w.params) = R1 at N2 r1ne
  simp only [List.cons_append, List.nil_append] at N2
  dsimp only
  clear F' N' N1 I0 fr1 new1 kb1 I1
  k_steps
  rename_i hh2 F2 N3
  refine Stop.mk ?_
  have mR1 : ∀ q ∈ rs1, ∀ p ∈ q.ents w.params, p ∈ R1 := fun q hq p hp => hR1 ▸ List.mem_flatMap.mpr ⟨q, hq, hp⟩
  have I1 : (M.grow o1 rs1).In w.params hh2 := MgrR.held (fun p hp => Fr.keep F2 _ _ (hb p hp)) (News.get N3 (.head _)) fun q hq p hp => News.get N3 (.tail _ (.tail _ (mR1 q hq p hp)))
  refine get_roleM (M := M.grow o1 rs1) ⟨⟨_, _, _, _, B', rfl, rfl, rfl⟩, rfl, by k_room, by k_units, X', T'⟩ F2 O1 I1 (N3 _ (.head _)).2.1 (N3 _ (.head _)).2.2 (by show (M.roles ++ rs1).length ≤ 1000; rw [List.length_append]; omega) ?_
  intro o2 rs2 r2 h3 tk3 O2 I2 hr2 hn2 hl2 kb2 fr2
  have N3' : News g' L' hh2 ((M.ar, o1) :: (906, tabObj ps) :: R1) := N3
  have new2 : ∀ p ∈ rs2.flatMap (RoleR.ents w.params), h3.get? p.1 = some p.2 ∧ hh2.get? p.1 = none := fun p hp => by
    obtain ⟨q, hq, hp⟩ := List.mem_flatMap.mp hp
    refine ⟨I2.ents (List.mem_append_right _ hq) p hp, ?_⟩
    obtain ⟨_, _, f1, f2, f3, f4⟩ := fr2 q hq
    refine memc hp ?_ fun hp => ?_
    · exact f2
    refine memc hp ?_ fun hp => ?_
    · exact f1
    refine memc hp ?_ fun hp => ?_
    · exact f3
    rw [List.mem_singleton.mp hp]; exact f4
  have fr2' : ∀ q ∈ rs2, (q.nm = n1 ∨ q.nm = n2) ∧ s.heap.get? q.x = none ∧ s.heap.get? q.dx = none ∧ s.heap.get? q.rl = none ∧ s.heap.get? q.ul = none := fun q hq => by
    obtain ⟨e, _, f1, f2, f3, f4⟩ := fr2 q hq
    exact ⟨.inr (e ▸ hn2), back F2 N3' _ f1, back F2 N3' _ f2, back F2 N3' _ f3, back F2 N3' _ f4⟩
  obtain ⟨F3, N4⟩ := led_grow (R := rs2.flatMap (RoleR.ents w.params)) F2 N3' kb2 I2.ar (fun p hp => by
    refine memc hp ?_ fun hp => ?_
    · exact Ne.symm hne
    · exact (r1ne p hp).1) new2
  have r2ne : ∀ p ∈ rs2.flatMap (RoleR.ents w.params), @Ne Nat p.1 906 := fun p hp q => by have := (new2 p hp).2; rw [show p.1 = 906 from q, (N3 _ (.tail _ (.head _))).1] at this; cases this
  rw [MgrR.grow_grow] at O2 I2
  generalize hR2 : rs2.flatMap (RoleR.ents w.params) = R2 at N4 r2ne
  have mR2 : ∀ q ∈ rs2, ∀ p ∈ q.ents w.params, p ∈ R2 := fun q hq p hp => hR2 ▸ List.mem_flatMap.mpr ⟨q, hq, hp⟩
  have N5 : News g' L' h3 ((M.ar, o2) :: (906, tabObj ps) :: (R1 ++ R2)) := N4
  dsimp only
  clear F2 N3 N4 N3' I1 fr2 new2 kb2 I2
  k_steps
  rename_i l5 h5 F5 N5 l5lt
  refine Stop.mk ?_
  have I5 : (M.grow o2 (rs1 ++ rs2)).In w.params h5 := MgrR.held (fun p hp => Fr.keep F5 _ _ (hb p hp)) (News.get N5 (.tail _ (.head _))) fun q hq p hp => News.get N5 (.tail _ (.tail _ (.tail _ (by
    rcases List.mem_append.mp hq with hq | hq
    · exact List.mem_append_left _ (mR1 q hq p hp)
    · exact List.mem_append_right _ (mR2 q hq p hp)))))
  have i5 : h5.get? 906 = some (tabObj ps) := News.get N5 (.tail _ (.tail _ (.head _)))
  have htab5 := MgrR.off_tab O2 I5 i5
  have hroles : (M.grow o2 (rs1 ++ rs2)).roles.length ≤ 92 := by
    show (M.roles ++ (rs1 ++ rs2)).length ≤ 92
    rw [List.length_append, List.length_append]; omega
  have hr1' : r1 ∈ (M.grow o2 (rs1 ++ rs2)).roles := by
    show r1 ∈ M.roles ++ (rs1 ++ rs2)
    rw [← List.append_assoc]; exact List.mem_append_left _ hr1
  have hn1m : n1 ∈ (M.grow o2 (rs1 ++ rs2)).names := hn1 ▸ List.mem_map_of_mem hr1'
  have hat1 : (M.grow o2 (rs1 ++ rs2)).at n1 = r1.x := by rw [← hn1]; exact MgrR.at_of O2.names hr1'
  have hval := O2.has (nm := n2) k [n1] (fun n hn => by rw [List.mem_singleton.mp hn]; exact hn1m)
  rw [List.map_cons, List.map_nil, hat1] at hval
  generalize hM2 : M.grow o2 (rs1 ++ rs2) = M2 at I5 O2 htab5 hroles hr1' hn1m hat1 hval
  have hp2 : M2.pairs = M.pairs := by rw [← hM2]; rfl
  have c1 : ∀ x ∈ M2.roles.map (·.x), RoleAt w.params h5 x (M2.nameOf x) (M2.succ x) := fun x hx => by
    obtain ⟨r, hr, rfl⟩ := List.mem_map.mp hx
    rw [M2.nameOf_of O2.xs hr, M2.succ_of O2.xs hr]
    exact ⟨r.dx, r.rl, r.ul, r.c1, r.c2, r.t0, r.t1, r.t2, r.t3, r.t4, r.t5, r.na, I5.x hr, I5.dic hr, I5.rl hr⟩
  have c2 : ∀ x ∈ M2.roles.map (·.x), ∀ y ∈ M2.succ x, y ∈ M2.roles.map (·.x) := fun x hx y hy => by
    obtain ⟨r, hr, rfl⟩ := List.mem_map.mp hx
    rw [M2.succ_of O2.xs hr, O2.as r hr] at hy
    obtain ⟨n, hn, rfl⟩ := List.mem_map.mp hy
    obtain ⟨r', hr', e⟩ := M2.role_of (O2.ends (r.nm, n) (mem_succN.mp hn)).2
    dsimp only at e
    rw [← e, M2.at_of O2.names hr']
    exact List.mem_map_of_mem hr'
  have c3 : ∀ x ∈ M2.roles.map (·.x), (M2.succ x).Nodup := fun x hx => by
    obtain ⟨r, hr, rfl⟩ := List.mem_map.mp hx
    rw [M2.succ_of O2.xs hr, O2.as r hr]
    exact O2.nodup_at (succN_nodup O2.pairs _) fun n hn => (O2.ends _ (mem_succN.mp hn)).2
  refine has_l_raw k ⟨⟨_, _, _, _, B', rfl, rfl, rfl⟩, rfl, by k_room, by k_units, X', T'⟩ F5 (by exact hG) (rs := [r1.x]) (newsSub (news' := [(906, tabObj ps)]) N5 (List.forall_mem_cons.mpr ⟨.tail _ (.tail _ (.head _)), List.forall_mem_nil _⟩)) htr (Fr.keep F5 _ _ ba) (Fr.keep F5 _ _ bd)
    (U := M2.roles.map (·.x)) (succ := M2.succ) (nameOf := M2.nameOf) c1 c2 c3 (by rw [List.length_map]; omega) (fun x hx => by rw [List.mem_singleton.mp hx]; exact List.mem_map_of_mem hr1') (by show 1 ≤ 100; omega) (News.get N5 (.head _)) hlv ?_
  intro b s6 ps6 hbv kb6 e6 htr6 hG6 hos6
  have I6 : M2.In w.params s6.heap := fun p hp => kb6 _ _ (notin1 (htab5 p hp)) (I5 p hp)
  have kbA : KeepBut [M.ar, 906] s.heap s6.heap := KeepBut.trans (kb0 h5 F5.keep) (KeepBut.mono kb6 fun q hq => by rw [List.mem_singleton.mp hq]; exact .tail _ (.head _))
  have F6 := Fr.but F5 kb6 (notin1 (Ne.symm (N5 _ (.tail _ (.tail _ (.head _)))).2.1)) (fun a ha => by rw [List.mem_singleton.mp ha]; exact (N5 (906, _) (.tail _ (.tail _ (.head _)))).2.2)
  have N6 : News g' L' s6.heap [(906, tabObj ps6)] := fun p hp => by rw [List.mem_singleton.mp hp]; exact ⟨e6, (N5 (906, _) (.tail _ (.tail _ (.head _)))).2⟩
  clear F5 N5 I5 c1 c2 c3
  k_steps
  refine ret b o2 (rs1 ++ rs2) s6 ps6 (by rw [hbv, hval, hp2]) (hM2 ▸ O2) (hM2 ▸ I6) (fun q hq => ?_) kbA e6 htr6 hG6 hos6
  rcases List.mem_append.mp hq with hq | hq
  · exact fr1' q hq
  · exact fr2' q hq
end
end Mine
namespace Mine
open PyProof.Rows.LCg PyProof.Rows.LCt
section
variable {prog : Program} {w : World} {p : Program} {loose : List Str} {mean : ExcName → Option Value} {mg mb : Str → Option Value}
  {A : Around} {h₀ : Heap} {L : Addr} {m : Str → Option Value} {s : Shared} {Q : Value → Shared → Prop} {E : Value → Shared → Prop}
local macro_rules | `(tactic| tb_start) => `(tactic| exact kept_get3)
local macro_rules | `(tactic| walk_at "eval ListComp") => `(tactic| (k_here; k_dflt (refine LCg.ListComp_U (F₀ := by k_asm) (by with_unfolding_all rfl) (by decide) (by rfl) (by decide) (by rfl) ?_)))
theorem CompSrc_kept {A : Around} {env : Env} {elt : Expr} {x : Str} {scope : Scope} {cl : List (Str × Addr)} {Fin : Shared → List Value → List (Addr × Obj) → Prop} {ax : Addr} {its : Array Value} {k : Nat} {news R : List (Addr × Obj)} {s₁ : Shared}
    (hh : A.handled = none) (F : Fr h₀ L s₁.heap m) (N : News h₀ L s₁.heap news) (hk : h₀.get? ax = some (listOf its k) ∨ (ax, listOf its k) ∈ R) (sub : ∀ p ∈ R, p ∈ news) (hsz : its.size ≤ sizeLine)
    (h : ∀ g, LCg.CompRest prog w A h₀ L m env elt x scope cl { s₁ with heap := g } (LCg.SrcAt h₀ ax its) (fun i v => its[i]? = some v) (Fin { s₁ with heap := g }) its.size 0 [] news) :
    LCg.CompSrc prog w A h₀ L m env elt x scope cl Fin (.ref ax) s₁ := by
  rcases hk with hk | hk
  · exact LCg.CompSrc.base hh F N ⟨_, hk, rfl, _, rfl⟩ hsz h
  · exact LCg.CompSrc.ledger hh F N (sub _ hk) hsz h
noncomputable def MgrR.tokAt (M : MgrR) (n : Str) : Tok := match M.roles.find? (fun r => r.nm == n) with | some r => r.t0 | none => 0
noncomputable def MgrR.nameVal (M : MgrR) (v : Value) : Value := match v with | .ref a => .str (M.nameOf a) (M.tokAt (M.nameOf a)) | v => v
theorem MgrR.tokAt_of {M : MgrR} {r : RoleR} (hn : M.names.Nodup) (hr : r ∈ M.roles) : M.tokAt r.nm = r.t0 := by unfold MgrR.tokAt; rw [M.find hn hr]
theorem get_rolesM (H : Here w p loose mean mg mb A L h₀ 600 9000) (F : Fr h₀ L s.heap m) {M : MgrR} {n1 : Str} {k1 : Tok} (O : M.Ok prog w) (I : M.In w.params s.heap) (hsz : M.roles.length ≤ 90)
   (N : News h₀ L s.heap [(M.ar, M.oar)])
   (ret : ∀ D its (tok : Str → Tok) o rs h' tk', h'.get? D = some (lst its) → its = (succN M.pairs n1).map (fun n => .str n (tok n)) → s.heap.get? D = none → (M.grow o rs).Ok prog w → (M.grow o rs).In w.params h' → (∀ q ∈ rs, q.nm = n1 ∧ s.heap.get? q.x = none ∧ s.heap.get? q.dx = none ∧ s.heap.get? q.rl = none ∧ s.heap.get? q.ul = none) →
     KeepBut [M.ar] s.heap h' → Q (.ref D) { s with heap := h', toks := tk' }) :
   wpAny (model prog w) A (call (.ref 914) [.ref M.a, .str n1 k1]) Q E s := by
  have hrest := MgrR.rest_ne O I
  refine H.openA ?_
  clear H
  intro A₀ base outer env dp gd un B hf hke hdp hun X T
  refine wpAny_call ?_
  k_dflt k_enter
  intro D' g' L' h' l1 FG' F' N' B' X' T' kG'
  k_lt l1
  dsimp only
  have hb : ∀ p ∈ M.rest w.params, g'.get? p.1 = some p.2 := fun p hp => kG' _ _ (I p (M.rest_sub hp)) (notin1 (hrest p hp))
  have ba : g'.get? M.a = some (instObj 929 M.d) := hb _ (.head _)
  have bd : g'.get? M.d = some (mgrDict w.params M.lv M.tl M.u1 M.u2 M.u3 M.u4 M.u5 M.al M.ar) := hb (M.d, M.dob w.params) (.tail _ (.head _))
  have kb0 : ∀ h2 : Heap, (∀ b o, g'.get? b = some o → h2.get? b = some o) → KeepBut [M.ar] s.heap h2 := fun h2 k b o hb' e => k b o (kG' b o e hb')
  clear hrest
  k_steps
  refine Stop.mk ?_
  have N1 := newsSub (news' := [(M.ar, M.oar)]) N' (List.forall_mem_cons.mpr ⟨by k_mem, List.forall_mem_nil _⟩)
  have I0 : (M.grow M.oar []).In w.params h' := MgrR.held (fun p hp => Fr.keep F' _ _ (hb p hp)) (News.get N1 (.head _)) fun _ q => nomatch q
  rw [MgrR.grow_nil] at I0
  refine get_roleM ⟨⟨_, _, _, _, B', rfl, rfl, rfl⟩, rfl, by k_room, by k_units, X', T'⟩ F' O I0 (N1 _ (.head _)).2.1 (N1 _ (.head _)).2.2 (by omega) ?_
  intro o1 rs1 r1 h1 tk1 O1 I1 hr1 hn1 hl1 kb1 fr1
  have back : ∀ {h2 : Heap} {m2 : Str → Option Value} {o2 : Obj} {l2 : List (Addr × Obj)}, Fr g' L' h2 m2 → News g' L' h2 ((M.ar, o2) :: l2) → ∀ b, h2.get? b = none → s.heap.get? b = none := fun F2 N2 b hb' => by
    cases e : s.heap.get? b with
    | none => rfl
    | some ob =>
      have q1 : b ≠ M.ar := fun q => by rw [q, (N2 _ (.head _)).1] at hb'; cases hb'
      have := F2.keep _ _ (kG' b ob e (notin1 q1))
      rw [hb'] at this; cases this
  have new1 : ∀ p ∈ rs1.flatMap (RoleR.ents w.params), h1.get? p.1 = some p.2 ∧ h'.get? p.1 = none := fun p hp => by
    obtain ⟨q, hq, hp⟩ := List.mem_flatMap.mp hp
    refine ⟨I1.ents (List.mem_append_right _ hq) p hp, ?_⟩
    obtain ⟨_, _, f1, f2, f3, f4⟩ := fr1 q hq
    refine memc hp ?_ fun hp => ?_
    · exact f2
    refine memc hp ?_ fun hp => ?_
    · exact f1
    refine memc hp ?_ fun hp => ?_
    · exact f3
    rw [List.mem_singleton.mp hp]; exact f4
  have fr1' : ∀ q ∈ rs1, q.nm = n1 ∧ s.heap.get? q.x = none ∧ s.heap.get? q.dx = none ∧ s.heap.get? q.rl = none ∧ s.heap.get? q.ul = none := fun q hq => by
    obtain ⟨e, _, f1, f2, f3, f4⟩ := fr1 q hq
    exact ⟨e ▸ hn1, back F' N1 _ f1, back F' N1 _ f2, back F' N1 _ f3, back F' N1 _ f4⟩
  obtain ⟨F1, N2⟩ := led_grow (R := rs1.flatMap (RoleR.ents w.params)) F' N1 kb1 I1.ar (fun p hp => nomatch hp) new1
  generalize hR1 : rs1.flatMap (RoleR.ents w.params) = R1 at N2
  simp only [List.cons_append, List.nil_append] at N2
  dsimp only
  have mR1 : ∀ q ∈ rs1, ∀ p ∈ q.ents w.params, p ∈ R1 := fun q hq p hp => hR1 ▸ List.mem_flatMap.mpr ⟨q, hq, hp⟩
  have rents : ∀ r ∈ M.roles ++ rs1, ∀ p ∈ r.ents w.params, g'.get? p.1 = some p.2 ∨ p ∈ R1 := fun r hr p hp => by
    rcases List.mem_append.mp hr with hr | hr
    · refine .inl (hb p ?_)
      refine memc hp ?_ fun hp => ?_
      · exact .tail _ (.tail _ (.tail _ (List.mem_append_left _ (List.mem_map_of_mem hr))))
      · exact .tail _ (.tail _ (.tail _ (List.mem_append_right _ (List.mem_append_left _ (List.mem_flatMap.mpr ⟨r, hr, hp⟩)))))
    · exact .inr (mR1 r hr p hp)
  have x1 : g'.get? r1.x = some (instObj 814 r1.dx) ∨ (r1.x, instObj 814 r1.dx) ∈ R1 := rents r1 hr1 (r1.x, _) (.tail _ (.head _))
  have x2 : g'.get? r1.dx = some (roleDict w.params r1.nm r1.t0 r1.t1 r1.t2 r1.t3 r1.t4 r1.t5 r1.rl r1.ul r1.c1 r1.c2) ∨ (r1.dx, roleDict w.params r1.nm r1.t0 r1.t1 r1.t2 r1.t3 r1.t4 r1.t5 r1.rl r1.ul r1.c1 r1.c2) ∈ R1 := rents r1 hr1 (r1.dx, _) (.head _)
  have x3 : g'.get? r1.rl = some (listOf (r1.as.map Value.ref).toArray r1.na) ∨ (r1.rl, listOf (r1.as.map Value.ref).toArray r1.na) ∈ R1 := rents r1 hr1 (r1.rl, _) (.tail _ (.tail _ (.head _)))
  clear F' N' N1 I0 fr1 new1 kb1 I1
  k_steps
  rename_i hh9 F9 N9
  have len1 : r1.as.length ≤ 1000 := by
    have hnd := O1.nodup_at (succN_nodup O1.pairs r1.nm) fun n hn => (O1.ends (r1.nm, n) (mem_succN.mp hn)).2
    rw [← O1.as r1 hr1] at hnd
    have := nodup_len r1.as ((M.grow o1 rs1).roles.map (·.x)) hnd fun y hy => by
      rw [O1.as r1 hr1] at hy
      obtain ⟨n, hn, rfl⟩ := List.mem_map.mp hy
      obtain ⟨r', hr', e⟩ := MgrR.role_of (O1.ends (r1.nm, n) (mem_succN.mp hn)).2
      dsimp only at e
      rw [← e, MgrR.at_of O1.names hr']
      exact List.mem_map_of_mem hr'
    rw [List.length_map] at this
    have h2 : (M.grow o1 rs1).roles.length ≤ 91 := by show (M.roles ++ rs1).length ≤ 91; rw [List.length_append]; omega
    omega
  refine CompSrc_kept (by rfl) (by k_asm) (by k_asm) x3 (fun q hq => .tail _ hq) (by rw [List.size_toArray, List.length_map, sizeLine_eq]; omega) ?_
  intro g9
  refine compRest_pure (M.grow o1 rs1).nameVal ?_ ?_ ?_
  · rcases x3 with x3 | x3
    · exact Or.inl ⟨_, x3, rfl, _, rfl⟩
    · exact Or.inr ⟨_, .tail _ x3, rfl, _, rfl⟩
  · intro v I oI C oC D ys m₂ h tk E' hv hC hx F N
    obtain ⟨v', hv', rfl⟩ := List.mem_map.mp hv
    have hv2 := hv'
    rw [O1.as r1 hr1] at hv2
    obtain ⟨n, hn, e⟩ := List.mem_map.mp hv2
    obtain ⟨r, hr, en⟩ := MgrR.role_of (O1.ends (r1.nm, n) (mem_succN.mp hn)).2
    dsimp only at en
    rw [← en, MgrR.at_of O1.names hr] at e
    subst e
    have y1 : g'.get? r.x = some (instObj 814 r.dx) ∨ (r.x, instObj 814 r.dx) ∈ R1 := rents r hr (r.x, _) (.tail _ (.head _))
    have y2 : g'.get? r.dx = some (roleDict w.params r.nm r.t0 r.t1 r.t2 r.t3 r.t4 r.t5 r.rl r.ul r.c1 r.c2) ∨ (r.dx, roleDict w.params r.nm r.t0 r.t1 r.t2 r.t3 r.t4 r.t5 r.rl r.ul r.c1 r.c2) ∈ R1 := rents r hr (r.dx, _) (.head _)
    k_steps
    refine ⟨?_, _, _, rfl, Keep.refl _⟩
    show _ = Value.str ((M.grow o1 rs1).nameOf r.x) ((M.grow o1 rs1).tokAt ((M.grow o1 rs1).nameOf r.x))
    rw [MgrR.nameOf_of O1.xs hr, MgrR.tokAt_of O1.names hr]
  clear x1 x2 x3 F9 N9
  k_steps
  rename Fr g' L' _ _ => F9
  rename News g' L' _ _ => N9
  rename (_ ∧ Off1 _ R1) => o9
  refine ret _ _ (M.grow o1 rs1).tokAt o1 rs1 _ _ (News.get N9 (.head _)) ?_ (GSub.fresh kG' N9 (.head _) (notin1 (Ne.symm o9.1))) O1 (MgrR.held (fun p hp => Fr.keep F9 _ _ (hb p hp)) (News.get N9 (.tail _ (.head _))) fun q hq p hp => News.get N9 (.tail _ (.tail _ (mR1 q hq p hp)))) fr1' (kb0 _ F9.keep)
  rw [O1.as r1 hr1, List.map_map, List.map_map]
  rw [hn1]
  refine List.map_congr_left fun n hn => ?_
  show Value.str ((M.grow o1 rs1).nameOf ((M.grow o1 rs1).at n)) ((M.grow o1 rs1).tokAt ((M.grow o1 rs1).nameOf ((M.grow o1 rs1).at n))) = _
  rw [O1.nameOf_at (O1.ends (n1, n) (mem_succN.mp hn)).2]
theorem get_usersM (H : Here w p loose mean mg mb A L h₀ 600 9000) (F : Fr h₀ L s.heap m) {M : MgrR} {n1 : Str} {k1 : Tok} (O : M.Ok prog w) (I : M.In w.params s.heap) (hsz : M.roles.length ≤ 90)
   (N : News h₀ L s.heap [(M.ar, M.oar)])
   (ret : ∀ D its (tok : Str → Tok) o rs h' tk', h'.get? D = some (lst its) → its = (predN M.pairs n1).map (fun n => .str n (tok n)) → s.heap.get? D = none → (M.grow o rs).Ok prog w → (M.grow o rs).In w.params h' → (∀ q ∈ rs, q.nm = n1 ∧ s.heap.get? q.x = none ∧ s.heap.get? q.dx = none ∧ s.heap.get? q.rl = none ∧ s.heap.get? q.ul = none) →
     KeepBut [M.ar] s.heap h' → Q (.ref D) { s with heap := h', toks := tk' }) :
   wpAny (model prog w) A (call (.ref 919) [.ref M.a, .str n1 k1]) Q E s := by
  have hrest := MgrR.rest_ne O I
  refine H.openA ?_
  clear H
  intro A₀ base outer env dp gd un B hf hke hdp hun X T
  refine wpAny_call ?_
  k_dflt k_enter
  intro D' g' L' h' l1 FG' F' N' B' X' T' kG'
  k_lt l1
  dsimp only
  have hb : ∀ p ∈ M.rest w.params, g'.get? p.1 = some p.2 := fun p hp => kG' _ _ (I p (M.rest_sub hp)) (notin1 (hrest p hp))
  have ba : g'.get? M.a = some (instObj 929 M.d) := hb _ (.head _)
  have bd : g'.get? M.d = some (mgrDict w.params M.lv M.tl M.u1 M.u2 M.u3 M.u4 M.u5 M.al M.ar) := hb (M.d, M.dob w.params) (.tail _ (.head _))
  have kb0 : ∀ h2 : Heap, (∀ b o, g'.get? b = some o → h2.get? b = some o) → KeepBut [M.ar] s.heap h2 := fun h2 k b o hb' e => k b o (kG' b o e hb')
  clear hrest
  k_steps
  refine Stop.mk ?_
  have N1 := newsSub (news' := [(M.ar, M.oar)]) N' (List.forall_mem_cons.mpr ⟨by k_mem, List.forall_mem_nil _⟩)
  have I0 : (M.grow M.oar []).In w.params h' := MgrR.held (fun p hp => Fr.keep F' _ _ (hb p hp)) (News.get N1 (.head _)) fun _ q => nomatch q
  rw [MgrR.grow_nil] at I0
  refine get_roleM ⟨⟨_, _, _, _, B', rfl, rfl, rfl⟩, rfl, by k_room, by k_units, X', T'⟩ F' O I0 (N1 _ (.head _)).2.1 (N1 _ (.head _)).2.2 (by omega) ?_
  intro o1 rs1 r1 h1 tk1 O1 I1 hr1 hn1 hl1 kb1 fr1
  have back : ∀ {h2 : Heap} {m2 : Str → Option Value} {o2 : Obj} {l2 : List (Addr × Obj)}, Fr g' L' h2 m2 → News g' L' h2 ((M.ar, o2) :: l2) → ∀ b, h2.get? b = none → s.heap.get? b = none := fun F2 N2 b hb' => by
    cases e : s.heap.get? b with
    | none => rfl
    | some ob =>
      have q1 : b ≠ M.ar := fun q => by rw [q, (N2 _ (.head _)).1] at hb'; cases hb'
      have := F2.keep _ _ (kG' b ob e (notin1 q1))
      rw [hb'] at this; cases this
  have new1 : ∀ p ∈ rs1.flatMap (RoleR.ents w.params), h1.get? p.1 = some p.2 ∧ h'.get? p.1 = none := fun p hp => by
    obtain ⟨q, hq, hp⟩ := List.mem_flatMap.mp hp
    refine ⟨I1.ents (List.mem_append_right _ hq) p hp, ?_⟩
    obtain ⟨_, _, f1, f2, f3, f4⟩ := fr1 q hq
    refine memc hp ?_ fun hp => ?_
    · exact f2
    refine memc hp ?_ fun hp => ?_
    · exact f1
    refine memc hp ?_ fun hp => ?_
    · exact f3
    rw [List.mem_singleton.mp hp]; exact f4
  have fr1' : ∀ q ∈ rs1, q.nm = n1 ∧ s.heap.get? q.x = none ∧ s.heap.get? q.dx = none ∧ s.heap.get? q.rl = none ∧ s.heap.get? q.ul = none := fun q hq => by
    obtain ⟨e, _, f1, f2, f3, f4⟩ := fr1 q hq
    exact ⟨e ▸ hn1, back F' N1 _ f1, back F' N1 _ f2, back F' N1 _ f3, back F' N1 _ f4⟩
  obtain ⟨F1, N2⟩ := led_grow (R := rs1.flatMap (RoleR.ents w.params)) F' N1 kb1 I1.ar (fun p hp => nomatch hp) new1
  generalize hR1 : rs1.flatMap (RoleR.ents w.params) = R1 at N2
  simp only [List.cons_append, List.nil_append] at N2
  dsimp only
  have mR1 : ∀ q ∈ rs1, ∀ p ∈ q.ents w.params, p ∈ R1 := fun q hq p hp => hR1 ▸ List.mem_flatMap.mpr ⟨q, hq, hp⟩
  have rents : ∀ r ∈ M.roles ++ rs1, ∀ p ∈ r.ents w.params, g'.get? p.1 = some p.2 ∨ p ∈ R1 := fun r hr p hp => by
    rcases List.mem_append.mp hr with hr | hr
    · refine .inl (hb p ?_)
      refine memc hp ?_ fun hp => ?_
      · exact .tail _ (.tail _ (.tail _ (List.mem_append_left _ (List.mem_map_of_mem hr))))
      · exact .tail _ (.tail _ (.tail _ (List.mem_append_right _ (List.mem_append_left _ (List.mem_flatMap.mpr ⟨r, hr, hp⟩)))))
    · exact .inr (mR1 r hr p hp)
  have x1 : g'.get? r1.x = some (instObj 814 r1.dx) ∨ (r1.x, instObj 814 r1.dx) ∈ R1 := rents r1 hr1 (r1.x, _) (.tail _ (.head _))
  have x2 : g'.get? r1.dx = some (roleDict w.params r1.nm r1.t0 r1.t1 r1.t2 r1.t3 r1.t4 r1.t5 r1.rl r1.ul r1.c1 r1.c2) ∨ (r1.dx, roleDict w.params r1.nm r1.t0 r1.t1 r1.t2 r1.t3 r1.t4 r1.t5 r1.rl r1.ul r1.c1 r1.c2) ∈ R1 := rents r1 hr1 (r1.dx, _) (.head _)
  have x3 : g'.get? r1.ul = some (listOf (r1.bs.map Value.ref).toArray r1.nb) ∨ (r1.ul, listOf (r1.bs.map Value.ref).toArray r1.nb) ∈ R1 := rents r1 hr1 (r1.ul, _) (.tail _ (.tail _ (.tail _ (.head _))))
  clear F' N' N1 I0 fr1 new1 kb1 I1
  k_steps
  rename_i hh9 F9 N9
  have len1 : r1.bs.length ≤ 1000 := by
    have hnd := O1.nodup_at (predN_nodup O1.pairs r1.nm) fun n hn => (O1.ends (n, r1.nm) (mem_predN.mp hn)).1
    rw [← O1.bs r1 hr1] at hnd
    have := nodup_len r1.bs ((M.grow o1 rs1).roles.map (·.x)) hnd fun y hy => by
      rw [O1.bs r1 hr1] at hy
      obtain ⟨n, hn, rfl⟩ := List.mem_map.mp hy
      obtain ⟨r', hr', e⟩ := MgrR.role_of (O1.ends (n, r1.nm) (mem_predN.mp hn)).1
      dsimp only at e
      rw [← e, MgrR.at_of O1.names hr']
      exact List.mem_map_of_mem hr'
    rw [List.length_map] at this
    have h2 : (M.grow o1 rs1).roles.length ≤ 91 := by show (M.roles ++ rs1).length ≤ 91; rw [List.length_append]; omega
    omega
  refine CompSrc_kept (by rfl) (by k_asm) (by k_asm) x3 (fun q hq => .tail _ hq) (by rw [List.size_toArray, List.length_map, sizeLine_eq]; omega) ?_
  intro g9
  refine compRest_pure (M.grow o1 rs1).nameVal ?_ ?_ ?_
  · rcases x3 with x3 | x3
    · exact Or.inl ⟨_, x3, rfl, _, rfl⟩
    · exact Or.inr ⟨_, .tail _ x3, rfl, _, rfl⟩
  · intro v I oI C oC D ys m₂ h tk E' hv hC hx F N
    obtain ⟨v', hv', rfl⟩ := List.mem_map.mp hv
    have hv2 := hv'
    rw [O1.bs r1 hr1] at hv2
    obtain ⟨n, hn, e⟩ := List.mem_map.mp hv2
    obtain ⟨r, hr, en⟩ := MgrR.role_of (O1.ends (n, r1.nm) (mem_predN.mp hn)).1
    dsimp only at en
    rw [← en, MgrR.at_of O1.names hr] at e
    subst e
    have y1 : g'.get? r.x = some (instObj 814 r.dx) ∨ (r.x, instObj 814 r.dx) ∈ R1 := rents r hr (r.x, _) (.tail _ (.head _))
    have y2 : g'.get? r.dx = some (roleDict w.params r.nm r.t0 r.t1 r.t2 r.t3 r.t4 r.t5 r.rl r.ul r.c1 r.c2) ∨ (r.dx, roleDict w.params r.nm r.t0 r.t1 r.t2 r.t3 r.t4 r.t5 r.rl r.ul r.c1 r.c2) ∈ R1 := rents r hr (r.dx, _) (.head _)
    k_steps
    refine ⟨?_, _, _, rfl, Keep.refl _⟩
    show _ = Value.str ((M.grow o1 rs1).nameOf r.x) ((M.grow o1 rs1).tokAt ((M.grow o1 rs1).nameOf r.x))
    rw [MgrR.nameOf_of O1.xs hr, MgrR.tokAt_of O1.names hr]
  clear x1 x2 x3 F9 N9
  k_steps
  rename Fr g' L' _ _ => F9
  rename News g' L' _ _ => N9
  rename (_ ∧ Off1 _ R1) => o9
  refine ret _ _ (M.grow o1 rs1).tokAt o1 rs1 _ _ (News.get N9 (.head _)) ?_ (GSub.fresh kG' N9 (.head _) (notin1 (Ne.symm o9.1))) O1 (MgrR.held (fun p hp => Fr.keep F9 _ _ (hb p hp)) (News.get N9 (.tail _ (.head _))) fun q hq p hp => News.get N9 (.tail _ (.tail _ (mR1 q hq p hp)))) fr1' (kb0 _ F9.keep)
  rw [O1.bs r1 hr1, List.map_map, List.map_map]
  rw [hn1]
  refine List.map_congr_left fun n hn => ?_
  show Value.str ((M.grow o1 rs1).nameOf ((M.grow o1 rs1).at n)) ((M.grow o1 rs1).tokAt ((M.grow o1 rs1).nameOf ((M.grow o1 rs1).at n))) = _
  rw [O1.nameOf_at (O1.ends (n, n1) (mem_predN.mp hn)).1]
end
end Mine
namespace Mine
open PyProof.Rows.LCg PyProof.Rows.LCt
section
variable {prog : Program} {w : World} {p : Program} {loose : List Str} {mean : ExcName → Option Value} {mg mb : Str → Option Value}
  {A : Around} {h₀ : Heap} {L : Addr} {m : Str → Option Value} {s : Shared} {Q : Value → Shared → Prop} {E : Value → Shared → Prop}
theorem dics_sub {M : MgrR} {P : Params} {r1 r2 : RoleR} {h : Heap} (N : News h₀ L h (M.roles.map (RoleR.dic P))) (h1 : r1 ∈ M.roles) (h2 : r2 ∈ M.roles) : News h₀ L h [r1.dic P, r2.dic P] :=
  newsSub N (List.forall_mem_cons.mpr ⟨List.mem_map_of_mem h1, List.forall_mem_cons.mpr ⟨List.mem_map_of_mem h2, List.forall_mem_nil _⟩⟩)
noncomputable def linkF (x y D D' : Addr) (as bs : List Addr) (n n' : Nat) (r : RoleR) : RoleR := setBs y D' bs n' (setAs x D as n r)
theorem linkF_same {x y D D' : Addr} {as bs : List Addr} {n n' : Nat} (r : RoleR) : (linkF x y D D' as bs n n' r).x = r.x ∧ (linkF x y D D' as bs n n' r).dx = r.dx ∧ (linkF x y D D' as bs n n' r).nm = r.nm := by
  unfold linkF
  obtain ⟨a, b, c⟩ := setBs_same (x := y) (D := D') (bs := bs) (n := n') (setAs x D as n r)
  obtain ⟨a', b', c'⟩ := setAs_same (x := x) (D := D) (as := as) (n := n) r
  exact ⟨a.trans a', b.trans b', c.trans c'⟩
theorem inj_of_nodup (f : RoleR → Addr) {r r' : RoleR} : ∀ l : List RoleR, (l.map f).Nodup → r ∈ l → r' ∈ l → f r = f r' → r = r'
  | [], _, h, _, _ => nomatch h
  | q :: l, hn, h1, h2, e => by
    rw [List.map_cons, List.nodup_cons] at hn
    rcases List.mem_cons.mp h1 with h1 | h1 <;> rcases List.mem_cons.mp h2 with h2 | h2
    · rw [h1, h2]
    · exact absurd (List.mem_map.mpr ⟨r', h2, by rw [← e, h1]⟩) hn.1
    · exact absurd (List.mem_map.mpr ⟨r, h1, by rw [e, h2]⟩) hn.1
    · exact inj_of_nodup f l hn.2 h1 h2 e
theorem MgrR.Ok.xs_inj {M : MgrR} (O : M.Ok prog w) {r r' : RoleR} (hr : r ∈ M.roles) (hr' : r' ∈ M.roles) (e : r.x = r'.x) : r = r' := inj_of_nodup (·.x) _ O.xs hr hr' e
theorem MgrR.Ok.dxs_inj {M : MgrR} (O : M.Ok prog w) {r r' : RoleR} (hr : r ∈ M.roles) (hr' : r' ∈ M.roles) (e : r.dx = r'.dx) : r = r' := by
  have hx := O.muts
  rw [List.nodup_cons, List.nodup_cons] at hx
  exact inj_of_nodup (·.dx) _ hx.2.2 hr hr' e
theorem MgrR.Ok.at_mem {M : MgrR} (O : M.Ok prog w) {n : Str} (hn : n ∈ M.names) : ∃ r ∈ M.roles, r.nm = n ∧ M.at n = r.x := by
  obtain ⟨r, hr, rfl⟩ := M.role_of hn
  exact ⟨r, hr, rfl, M.at_of O.names hr⟩
theorem linkF_end {M : MgrR} {P : Params} {h h' : Heap} {r1 r2 : RoleR} {D D' : Addr} {as bs : List Addr} {n n' : Nat} {ps : List (Str × Str)} (O : M.Ok prog w) (I : M.In P h) (hr1 : r1 ∈ M.roles) (hr2 : r2 ∈ M.roles)
    (k : ∀ p ∈ M.all P, p.1 ∉ [r1.dx, r2.dx] → h'.get? p.1 = some p.2) (ed1 : h'.get? r1.dx = some ((linkF r1.x r2.x D D' as bs n n' r1).dob P)) (ed2 : h'.get? r2.dx = some ((linkF r1.x r2.x D D' as bs n n' r2).dob P))
    (eD : h'.get? D = some (listOf (as.map Value.ref).toArray n)) (eD' : h'.get? D' = some (listOf (bs.map Value.ref).toArray n')) (f1 : h.get? D = none) (f2 : h.get? D' = none)
    (hp : ps.Nodup) (he : ∀ p ∈ ps, p.1 ∈ M.names ∧ p.2 ∈ M.names) (has : as = (succN ps r1.nm).map M.at) (hbs : bs = (predN ps r2.nm).map M.at)
    (hs : ∀ r ∈ M.roles, r ≠ r1 → succN ps r.nm = succN M.pairs r.nm) (hq : ∀ r ∈ M.roles, r ≠ r2 → predN ps r.nm = predN M.pairs r.nm) :
    (M.upd (linkF r1.x r2.x D D' as bs n n') ps).Ok prog w ∧ (M.upd (linkF r1.x r2.x D D' as bs n n') ps).In P h' := by
  have ne : ∀ {b b' : Addr} {o' : Obj}, h.get? b = none → h.get? b' = some o' → @Ne Nat b b' := fun e e' q => by rw [show _ = _ from q, e'] at e; cases e
  have fa : ∀ r ∈ M.roles, (linkF r1.x r2.x D D' as bs n n' r).as = (if r.x = r1.x then as else r.as) ∧ (linkF r1.x r2.x D D' as bs n n' r).rl = (if r.x = r1.x then D else r.rl) ∧ (linkF r1.x r2.x D D' as bs n n' r).na = (if r.x = r1.x then n else r.na) := fun r hr => by
    unfold linkF setAs setBs
    by_cases q : r.x = r1.x
    · simp only [q, if_true]; split <;> exact ⟨rfl, rfl, rfl⟩
    · simp only [q, if_false]; split <;> exact ⟨rfl, rfl, rfl⟩
  have fb : ∀ r ∈ M.roles, (linkF r1.x r2.x D D' as bs n n' r).bs = (if r.x = r2.x then bs else r.bs) ∧ (linkF r1.x r2.x D D' as bs n n' r).ul = (if r.x = r2.x then D' else r.ul) ∧ (linkF r1.x r2.x D D' as bs n n' r).nb = (if r.x = r2.x then n' else r.nb) := fun r hr => by
    have hy : (setAs r1.x D as n r).x = r.x := (setAs_same r).1
    unfold linkF setBs
    rw [hy]
    by_cases q : r.x = r2.x
    · simp only [q, if_true]; exact ⟨trivial, trivial, trivial⟩
    · simp only [q, if_false]; unfold setAs; split <;> exact ⟨rfl, rfl, rfl⟩
  have off : ∀ {b : Addr} {o' : Obj}, h.get? b = some o' → o'.cls ≠ .type "dict" → b ∉ [r1.dx, r2.dx] := fun e n => off_cls e fun c hc => by
    refine memc hc ?_ fun hc => ?_
    · exact ⟨_, I.dic hr1, fun q => n (by rw [← q]; rfl)⟩
    · rw [List.mem_singleton.mp hc]; exact ⟨_, I.dic hr2, fun q => n (by rw [← q]; rfl)⟩
  refine ⟨O.upd linkF_same (fun r hr => ?_) hp he (fun r hr => ?_) (fun r hr => ?_), MgrR.In.upd O I k (fun b hb => ?_) linkF_same (fun r hr => ?_) (fun r hr => ?_) (fun r hr => ?_)⟩
  · rw [(fa r hr).2.1, (fb r hr).2.1]
    refine ⟨?_, ?_⟩
    · split
      · exact ne f1 I.al
      · exact (O.lists r hr).1
    · split
      · exact ne f2 I.al
      · exact (O.lists r hr).2
  · rw [(fa r hr).1]
    split
    · rename_i e; rw [has, O.xs_inj hr hr1 e]
    · rename_i e; rw [O.as r hr, hs r hr fun q => e (by rw [q])]
  · rw [(fb r hr).1]
    split
    · rename_i e; rw [hbs, O.xs_inj hr hr2 e]
    · rename_i e; rw [O.bs r hr, hq r hr fun q => e (by rw [q])]
  · refine memc hb ?_ fun hb => ?_
    · exact ⟨r1, hr1, rfl⟩
    · rw [List.mem_singleton.mp hb]; exact ⟨r2, hr2, rfl⟩
  · by_cases e1 : r = r1
    · rw [e1]; exact ed1
    by_cases e2 : r = r2
    · rw [e2]; exact ed2
    have n1 : @Ne Nat r.dx r1.dx := fun q => e1 (O.dxs_inj hr hr1 q)
    have n2 : @Ne Nat r.dx r2.dx := fun q => e2 (O.dxs_inj hr hr2 q)
    have x1 : ¬ r.x = r1.x := fun q => e1 (O.xs_inj hr hr1 q)
    have x2 : ¬ r.x = r2.x := fun q => e2 (O.xs_inj hr hr2 q)
    have : linkF r1.x r2.x D D' as bs n n' r = r := by unfold linkF setAs setBs; rw [if_neg x1, if_neg x2]
    rw [this]
    exact k (r.dic P) (M.mem_dic hr) (notin2 n1 n2)
  · rw [(fa r hr).1, (fa r hr).2.1, (fa r hr).2.2]
    split
    · exact eD
    · exact k (r.rl, _) (M.mem_fix hr (.tail _ (.head _))) (off (I.rl hr) (by simp))
  · rw [(fb r hr).1, (fb r hr).2.1, (fb r hr).2.2]
    split
    · exact eD'
    · exact k (r.ul, _) (M.mem_fix hr (.tail _ (.tail _ (.head _)))) (off (I.ul hr) (by simp))
theorem MgrR.Ok.as_mem {M : MgrR} (O : M.Ok prog w) {r : RoleR} (hr : r ∈ M.roles) : ∀ a ∈ r.as, ∃ r' ∈ M.roles, a = r'.x ∧ (r.nm, r'.nm) ∈ M.pairs := fun a ha => by
  rw [O.as r hr] at ha
  obtain ⟨n, hn, rfl⟩ := List.mem_map.mp ha
  have hp := mem_succN.mp hn
  obtain ⟨r', hr', e, e'⟩ := O.at_mem (O.ends _ hp).2
  dsimp only at e e'
  exact ⟨r', hr', e', e ▸ hp⟩
theorem MgrR.Ok.bs_mem {M : MgrR} (O : M.Ok prog w) {r : RoleR} (hr : r ∈ M.roles) : ∀ a ∈ r.bs, ∃ r' ∈ M.roles, a = r'.x ∧ (r'.nm, r.nm) ∈ M.pairs := fun a ha => by
  rw [O.bs r hr] at ha
  obtain ⟨n, hn, rfl⟩ := List.mem_map.mp ha
  have hp := mem_predN.mp hn
  obtain ⟨r', hr', e, e'⟩ := O.at_mem (O.ends _ hp).1
  dsimp only at e e'
  exact ⟨r', hr', e', e ▸ hp⟩
theorem MgrR.Ok.as_len {M : MgrR} (O : M.Ok prog w) {r : RoleR} (hr : r ∈ M.roles) : r.as.length ≤ M.roles.length := by
  have := nodup_len r.as (M.roles.map (·.x)) (by rw [O.as r hr]; exact O.nodup_at (succN_nodup O.pairs _) fun n hn => (O.ends (r.nm, n) (mem_succN.mp hn)).2) fun y hy => by
    obtain ⟨r', hr', rfl, _⟩ := O.as_mem hr y hy
    exact List.mem_map_of_mem hr'
  rwa [List.length_map] at this
theorem MgrR.Ok.bs_len {M : MgrR} (O : M.Ok prog w) {r : RoleR} (hr : r ∈ M.roles) : r.bs.length ≤ M.roles.length := by
  have := nodup_len r.bs (M.roles.map (·.x)) (by rw [O.bs r hr]; exact O.nodup_at (predN_nodup O.pairs _) fun n hn => (O.ends (n, r.nm) (mem_predN.mp hn)).1) fun y hy => by
    obtain ⟨r', hr', rfl, _⟩ := O.bs_mem hr y hy
    exact List.mem_map_of_mem hr'
  rwa [List.length_map] at this
theorem filter_not_mem {as : List Addr} {y : Addr} (h : y ∉ as) : as.filter (· != y) = as := List.filter_eq_self.mpr fun a ha => by
  rw [bne_iff_ne]; exact fun e => h (e ▸ ha)
theorem succN_snoc (ps : List (Str × Str)) (a b n : Str) : succN (ps ++ [(a, b)]) n = succN ps n ++ (if a = n then [b] else []) := by
  unfold succN
  rw [List.filter_append, List.map_append]
  by_cases e : a = n
  · simp [e]
  · simp [e]
theorem predN_snoc (ps : List (Str × Str)) (a b n : Str) : predN (ps ++ [(a, b)]) n = predN ps n ++ (if b = n then [a] else []) := by
  unfold predN
  rw [List.filter_append, List.map_append]
  by_cases e : b = n
  · simp [e]
  · simp [e]
theorem add_roleM (H : Here w p loose mean mg mb A L h₀ 40 200) (F : Fr h₀ L s.heap m) {M : MgrR} (O : M.Ok prog w) (I : M.In w.params s.heap) {r1 r2 : RoleR} (hr1 : r1 ∈ M.roles) (hr2 : r2 ∈ M.roles)
   (N : News h₀ L s.heap [r1.dic w.params, r2.dic w.params]) (hsz : M.roles.length ≤ 1000) (hnew : (r1.nm, r2.nm) ∉ M.pairs)
   (ret : ∀ D D' h' tk', (M.upd (linkF r1.x r2.x D D' (r1.as ++ [r2.x]) (r2.bs ++ [r1.x]) 0 0) (M.pairs ++ [(r1.nm, r2.nm)])).Ok prog w → (M.upd (linkF r1.x r2.x D D' (r1.as ++ [r2.x]) (r2.bs ++ [r1.x]) 0 0) (M.pairs ++ [(r1.nm, r2.nm)])).In w.params h' →
      KeepBut [r1.dx, r2.dx] s.heap h' → s.heap.get? D = none → s.heap.get? D' = none → Q .none { s with heap := h', toks := tk' }) :
   wpAny (model prog w) A (call (.ref 740) [.ref r1.x, .ref r2.x]) Q E s := by
  have na : r2.x ∉ r1.as := fun q => by
    obtain ⟨r', hr', e, hp⟩ := O.as_mem hr1 _ q
    rw [O.xs_inj hr2 hr' e] at hnew
    exact hnew hp
  have nb : r1.x ∉ r2.bs := fun q => by
    obtain ⟨r', hr', e, hp⟩ := O.bs_mem hr2 _ q
    rw [O.xs_inj hr1 hr' e] at hnew
    exact hnew hp
  have l1 := Nat.le_trans (O.as_len hr1) hsz
  have l2 := Nat.le_trans (O.bs_len hr2) hsz
  have m1 : ∀ a ∈ r1.as, ∃ d, s.heap.get? a = some (instObj 814 d) := fun a ha => by
    obtain ⟨r', hr', rfl, _⟩ := O.as_mem hr1 a ha; exact ⟨_, I.x hr'⟩
  have m2 : ∀ a ∈ r2.bs, ∃ d, s.heap.get? a = some (instObj 814 d) := fun a ha => by
    obtain ⟨r', hr', rfl, _⟩ := O.bs_mem hr2 a ha; exact ⟨_, I.x hr'⟩
  have at1 := M.at_of O.names hr1
  have at2 := M.at_of O.names hr2
  have pn : (M.pairs ++ [(r1.nm, r2.nm)]).Nodup := List.nodup_append.mpr ⟨O.pairs, by simp, fun a ha b hb e => hnew (by rw [List.mem_singleton.mp hb] at e; exact e ▸ ha)⟩
  have pe : ∀ q ∈ M.pairs ++ [(r1.nm, r2.nm)], q.1 ∈ M.names ∧ q.2 ∈ M.names := fun q hq => by
    rcases List.mem_append.mp hq with hq | hq
    · exact O.ends q hq
    · rw [List.mem_singleton.mp hq]; exact ⟨List.mem_map_of_mem hr1, List.mem_map_of_mem hr2⟩
  have as' : r1.as ++ [r2.x] = (succN (M.pairs ++ [(r1.nm, r2.nm)]) r1.nm).map M.at := by rw [succN_snoc, if_pos rfl, List.map_append, ← O.as r1 hr1, List.map_cons, List.map_nil, at2]
  have bs' : r2.bs ++ [r1.x] = (predN (M.pairs ++ [(r1.nm, r2.nm)]) r2.nm).map M.at := by rw [predN_snoc, if_pos rfl, List.map_append, ← O.bs r2 hr2, List.map_cons, List.map_nil, at1]
  have nmne : ∀ {r r' : RoleR}, r ∈ M.roles → r' ∈ M.roles → r ≠ r' → r'.nm ≠ r.nm := fun hr hr' n e => n (by
    have a := M.find O.names hr
    have b := M.find O.names hr'
    rw [e, a] at b; exact Option.some.inj b)
  have hs : ∀ r ∈ M.roles, r ≠ r1 → succN (M.pairs ++ [(r1.nm, r2.nm)]) r.nm = succN M.pairs r.nm := fun r hr n => by rw [succN_snoc, if_neg (nmne hr hr1 n), List.append_nil]
  have hq : ∀ r ∈ M.roles, r ≠ r2 → predN (M.pairs ++ [(r1.nm, r2.nm)]) r.nm = predN M.pairs r.nm := fun r hr n => by rw [predN_snoc, if_neg (nmne hr hr2 n), List.append_nil]
  by_cases e : r1 = r2
  · subst e
    refine add_role_self H F (newsSub (news' := [r1.dic w.params]) N (List.forall_mem_cons.mpr ⟨.head _, List.forall_mem_nil _⟩)) (I.x hr1) (I.rl hr1) (I.ul hr1) l1 l2 m1 m2 ?_
    intro D D' h' tk' kb ed e1 f1 e2 f2 _
    rw [filter_not_mem na] at e1
    rw [filter_not_mem nb] at e2
    have hF : linkF r1.x r1.x D D' (r1.as ++ [r1.x]) (r1.bs ++ [r1.x]) 0 0 r1 = { r1 with rl := D, as := r1.as ++ [r1.x], na := 0, ul := D', bs := r1.bs ++ [r1.x], nb := 0 } := by
      unfold linkF setAs setBs; rw [if_pos rfl, if_pos rfl]
    obtain ⟨x1, x2⟩ := linkF_end O I hr1 hr1 (fun p hp n => kb _ _ (fun q => n (List.mem_cons_of_mem _ q)) (I p hp)) (by rw [hF]; exact ed) (by rw [hF]; exact ed) e1 e2 f1 f2 pn pe as' bs' hs hq
    exact ret D D' h' tk' x1 x2 (KeepBut.mono kb fun q hq => List.mem_cons_of_mem _ hq) f1 f2
  · have hx : ¬ r1.x = r2.x := fun q => e (O.xs_inj hr1 hr2 q)
    refine add_role_raw H F N (I.x hr1) (I.x hr2) (fun q => e (O.dxs_inj hr1 hr2 q)) (I.rl hr1) (I.ul hr2) l1 l2 m1 m2 ?_
    intro D D' h' tk' kb ed e1 f1 ed' e2 f2 _
    rw [filter_not_mem na] at e1
    rw [filter_not_mem nb] at e2
    have hF1 : linkF r1.x r2.x D D' (r1.as ++ [r2.x]) (r2.bs ++ [r1.x]) 0 0 r1 = { r1 with rl := D, as := r1.as ++ [r2.x], na := 0 } := by
      unfold linkF setAs setBs; rw [if_pos rfl, if_neg hx]
    have hF2 : linkF r1.x r2.x D D' (r1.as ++ [r2.x]) (r2.bs ++ [r1.x]) 0 0 r2 = { r2 with ul := D', bs := r2.bs ++ [r1.x], nb := 0 } := by
      unfold linkF setAs setBs; rw [if_neg (Ne.symm hx), if_pos rfl]
    obtain ⟨x1, x2⟩ := linkF_end O I hr1 hr2 (fun p hp n => kb _ _ n (I p hp)) (by rw [hF1]; exact ed) (by rw [hF2]; exact ed') e1 e2 f1 f2 pn pe as' bs' hs hq
    exact ret D D' h' tk' x1 x2 kb f1 f2
noncomputable def cut (ps : List (Str × Str)) (a b : Str) : List (Str × Str) := ps.filter (· != (a, b))
theorem mem_cut {ps : List (Str × Str)} {a b : Str} {q : Str × Str} : q ∈ cut ps a b ↔ q ∈ ps ∧ q ≠ (a, b) := by
  unfold cut; rw [List.mem_filter, bne_iff_ne]
theorem succN_cut (ps : List (Str × Str)) (a b n : Str) : succN (cut ps a b) n = if a = n then (succN ps n).filter (· != b) else succN ps n := by
  unfold succN cut
  rw [List.filter_filter]
  by_cases e : a = n
  · rw [if_pos e, List.filter_map, List.filter_filter]
    congr 1
    refine List.filter_congr fun p _ => ?_
    rw [Bool.eq_iff_iff]
    simp only [Bool.and_eq_true, beq_iff_eq, bne_iff_ne, Function.comp]
    constructor
    · rintro ⟨h1, h2⟩; exact ⟨fun q => h2 (Prod.ext (h1.trans e.symm) q), h1⟩
    · rintro ⟨h1, h2⟩; exact ⟨h2, fun q => h1 (by rw [q])⟩
  · rw [if_neg e]
    congr 1
    refine List.filter_congr fun p _ => ?_
    rw [Bool.eq_iff_iff]
    simp only [Bool.and_eq_true, beq_iff_eq, bne_iff_ne]
    exact ⟨fun h => h.1, fun h => ⟨h, fun q => e (by rw [← h, q])⟩⟩
theorem predN_cut (ps : List (Str × Str)) (a b n : Str) : predN (cut ps a b) n = if b = n then (predN ps n).filter (· != a) else predN ps n := by
  unfold predN cut
  rw [List.filter_filter]
  by_cases e : b = n
  · rw [if_pos e, List.filter_map, List.filter_filter]
    congr 1
    refine List.filter_congr fun p _ => ?_
    rw [Bool.eq_iff_iff]
    simp only [Bool.and_eq_true, beq_iff_eq, bne_iff_ne, Function.comp]
    constructor
    · rintro ⟨h1, h2⟩; exact ⟨fun q => h2 (Prod.ext q (h1.trans e.symm)), h1⟩
    · rintro ⟨h1, h2⟩; exact ⟨h2, fun q => h1 (by rw [q])⟩
  · rw [if_neg e]
    congr 1
    refine List.filter_congr fun p _ => ?_
    rw [Bool.eq_iff_iff]
    simp only [Bool.and_eq_true, beq_iff_eq, bne_iff_ne]
    exact ⟨fun h => h.1, fun h => ⟨h, fun q => e (by rw [← h, q])⟩⟩
theorem MgrR.Ok.map_filter {M : MgrR} (O : M.Ok prog w) {ns : List Str} {b : Str} (hn : ∀ n ∈ ns, n ∈ M.names) (hb : b ∈ M.names) : (ns.map M.at).filter (· != M.at b) = (ns.filter (· != b)).map M.at := by
  rw [List.filter_map]
  congr 1
  refine List.filter_congr fun n hn' => ?_
  rw [Bool.eq_iff_iff]
  simp only [Function.comp, bne_iff_ne]
  exact ⟨fun h q => h (by rw [q]), fun h q => h (O.at_inj (hn n hn') hb q)⟩
theorem remove_roleM (H : Here w p loose mean mg mb A L h₀ 40 200) (F : Fr h₀ L s.heap m) (hG : AllBare s.gens) {M : MgrR} {ps : Array Value} (O : M.Ok prog w) (I : M.In w.params s.heap) {r1 r2 : RoleR} (hr1 : r1 ∈ M.roles) (hr2 : r2 ∈ M.roles)
   (N : News h₀ L s.heap [r1.dic w.params, r2.dic w.params, (742, tabObj ps)]) (htr : TriplesOk ps.toList) (hsz : M.roles.length ≤ 1000) (hin : (r1.nm, r2.nm) ∈ M.pairs)
   (ret : ∀ D D' n n' s' ps', (M.upd (linkF r1.x r2.x D D' (r1.as.filter (· != r2.x)) (r2.bs.filter (· != r1.x)) n n') (cut M.pairs r1.nm r2.nm)).Ok prog w → (M.upd (linkF r1.x r2.x D D' (r1.as.filter (· != r2.x)) (r2.bs.filter (· != r1.x)) n n') (cut M.pairs r1.nm r2.nm)).In w.params s'.heap →
      KeepBut [r1.dx, r2.dx, 742] s.heap s'.heap → s.heap.get? D = none → s.heap.get? D' = none → s'.heap.get? 742 = some (tabObj ps') → TriplesOk ps'.toList → AllBare s'.gens → s'.os = s.os → Q .none s') :
   wpAny (model prog w) A (call (.ref 745) [.ref r1.x, .ref r2.x]) Q E s := by
  have i742 : s.heap.get? 742 = some (tabObj ps) := (N _ (.tail _ (.tail _ (.head _)))).1
  have htab := MgrR.off_tab O I i742
  have l1 := Nat.le_trans (O.as_len hr1) hsz
  have l2 := Nat.le_trans (O.bs_len hr2) hsz
  have m1 : ∀ a ∈ r1.as, ∃ d, s.heap.get? a = some (instObj 814 d) := fun a ha => by
    obtain ⟨r', hr', rfl, _⟩ := O.as_mem hr1 a ha; exact ⟨_, I.x hr'⟩
  have m2 : ∀ a ∈ r2.bs, ∃ d, s.heap.get? a = some (instObj 814 d) := fun a ha => by
    obtain ⟨r', hr', rfl, _⟩ := O.bs_mem hr2 a ha; exact ⟨_, I.x hr'⟩
  have at1 := M.at_of O.names hr1
  have at2 := M.at_of O.names hr2
  have hin' : r2.x ∈ r1.as := by rw [O.as r1 hr1, ← at2]; exact List.mem_map_of_mem (mem_succN.mpr hin)
  have pn : (cut M.pairs r1.nm r2.nm).Nodup := O.pairs.sublist List.filter_sublist
  have pe : ∀ q ∈ cut M.pairs r1.nm r2.nm, q.1 ∈ M.names ∧ q.2 ∈ M.names := fun q hq => O.ends q (mem_cut.mp hq).1
  have as' : r1.as.filter (· != r2.x) = (succN (cut M.pairs r1.nm r2.nm) r1.nm).map M.at := by
    rw [succN_cut, if_pos rfl, O.as r1 hr1, ← at2]
    exact O.map_filter (fun n hn => (O.ends (r1.nm, n) (mem_succN.mp hn)).2) (List.mem_map_of_mem hr2)
  have bs' : r2.bs.filter (· != r1.x) = (predN (cut M.pairs r1.nm r2.nm) r2.nm).map M.at := by
    rw [predN_cut, if_pos rfl, O.bs r2 hr2, ← at1]
    exact O.map_filter (fun n hn => (O.ends (n, r2.nm) (mem_predN.mp hn)).1) (List.mem_map_of_mem hr1)
  have nmne : ∀ {r r' : RoleR}, r ∈ M.roles → r' ∈ M.roles → r ≠ r' → r'.nm ≠ r.nm := fun hr hr' n e => n (by
    have a := M.find O.names hr
    have b := M.find O.names hr'
    rw [e, a] at b; exact Option.some.inj b)
  have hs : ∀ r ∈ M.roles, r ≠ r1 → succN (cut M.pairs r1.nm r2.nm) r.nm = succN M.pairs r.nm := fun r hr n => by rw [succN_cut, if_neg (nmne hr hr1 n)]
  have hq : ∀ r ∈ M.roles, r ≠ r2 → predN (cut M.pairs r1.nm r2.nm) r.nm = predN M.pairs r.nm := fun r hr n => by rw [predN_cut, if_neg (nmne hr hr2 n)]
  have kk : ∀ {hh : Heap}, KeepBut [r1.dx, r2.dx, 742] s.heap hh → ∀ p ∈ M.all w.params, p.1 ∉ [r1.dx, r2.dx] → hh.get? p.1 = some p.2 := fun kb p hp n => kb _ _ (fun q => by
    rcases List.mem_cons.mp q with q | q
    · exact n (q ▸ .head _)
    rcases List.mem_cons.mp q with q | q
    · exact n (q ▸ .tail _ (.head _))
    · exact htab p hp (List.mem_singleton.mp q)) (I p hp)
  by_cases e : r1 = r2
  · subst e
    refine remove_role_self H F hG (newsSub (news' := [r1.dic w.params, (742, tabObj ps)]) N (List.forall_mem_cons.mpr ⟨.head _, List.forall_mem_cons.mpr ⟨.tail _ (.tail _ (.head _)), List.forall_mem_nil _⟩⟩)) htr (I.x hr1) (I.rl hr1) (I.ul hr1) l1 l2 m1 m2 hin' ?_
    intro D D' s' ps' kb ed e1 f1 e2 f2 _ e742 htr' hG' hos
    have kb' : KeepBut [r1.dx, r1.dx, 742] s.heap s'.heap := KeepBut.mono kb fun q hq => List.mem_cons_of_mem _ hq
    have hF : linkF r1.x r1.x D D' (r1.as.filter (· != r1.x)) (r1.bs.filter (· != r1.x)) ((r1.as.filter (· != r1.x)).map Value.ref).length ((r1.bs.filter (· != r1.x)).map Value.ref).length r1 = { r1 with rl := D, as := r1.as.filter (· != r1.x), na := ((r1.as.filter (· != r1.x)).map Value.ref).length, ul := D', bs := r1.bs.filter (· != r1.x), nb := ((r1.bs.filter (· != r1.x)).map Value.ref).length } := by
      unfold linkF setAs setBs; rw [if_pos rfl, if_pos rfl]
    obtain ⟨x1, x2⟩ := linkF_end O I hr1 hr1 (kk kb') (by rw [hF]; exact ed) (by rw [hF]; exact ed) e1 e2 f1 f2 pn pe as' bs' hs hq
    exact ret D D' _ _ s' ps' x1 x2 kb' f1 f2 e742 htr' hG' hos
  · have hx : ¬ r1.x = r2.x := fun q => e (O.xs_inj hr1 hr2 q)
    refine remove_role_raw H F hG N htr (I.x hr1) (I.x hr2) (fun q => e (O.dxs_inj hr1 hr2 q)) (I.rl hr1) (I.ul hr2) l1 l2 m1 m2 hin' ?_
    intro D D' s' ps' kb ed e1 f1 ed' e2 f2 _ e742 htr' hG' hos
    have hF1 : linkF r1.x r2.x D D' (r1.as.filter (· != r2.x)) (r2.bs.filter (· != r1.x)) ((r1.as.filter (· != r2.x)).map Value.ref).length ((r2.bs.filter (· != r1.x)).map Value.ref).length r1 = { r1 with rl := D, as := r1.as.filter (· != r2.x), na := ((r1.as.filter (· != r2.x)).map Value.ref).length } := by
      unfold linkF setAs setBs; rw [if_pos rfl, if_neg hx]
    have hF2 : linkF r1.x r2.x D D' (r1.as.filter (· != r2.x)) (r2.bs.filter (· != r1.x)) ((r1.as.filter (· != r2.x)).map Value.ref).length ((r2.bs.filter (· != r1.x)).map Value.ref).length r2 = { r2 with ul := D', bs := r2.bs.filter (· != r1.x), nb := ((r2.bs.filter (· != r1.x)).map Value.ref).length } := by
      unfold linkF setAs setBs; rw [if_neg (Ne.symm hx), if_pos rfl]
    obtain ⟨x1, x2⟩ := linkF_end O I hr1 hr2 (kk kb) (by rw [hF1]; exact ed) (by rw [hF2]; exact ed') e1 e2 f1 f2 pn pe as' bs' hs hq
    exact ret D D' _ _ s' ps' x1 x2 kb f1 f2 e742 htr' hG' hos
end
end Mine
namespace Mine
open PyProof.Rows.LCg PyProof.Rows.LCt
section
variable {prog : Program} {w : World} {p : Program} {loose : List Str} {mean : ExcName → Option Value} {mg mb : Str → Option Value}
  {A : Around} {h₀ : Heap} {L : Addr} {m : Str → Option Value} {s : Shared} {Q : Value → Shared → Prop} {E : Value → Shared → Prop}
local macro_rules | `(tactic| tb_start) => `(tactic| exact kept_get3)
theorem MgrR.Ok.off_led {M : MgrR} {P : Params} {h : Heap} (O : M.Ok prog w) (I : M.In P h) {b : Addr} {o : Obj} (e : h.get? b = some o) (n : o.cls ≠ .type "dict") (nal : @Ne Nat b M.al) : b ∉ ((M.al, M.lob) :: (M.ar, M.oar) :: M.roles.map (RoleR.dic P)).map (·.1) := fun hc => by
  obtain ⟨q, hq, e'⟩ := List.mem_map.mp hc
  rcases List.mem_cons.mp hq with rfl | hq
  · exact nal e'.symm
  rcases List.mem_cons.mp hq with rfl | hq
  · exact ne_of_obj e I.ar (by rw [O.cls]; exact n) e'.symm
  · obtain ⟨r, hr, rfl⟩ := List.mem_map.mp hq
    exact ne_of_obj e (I.dic hr) (fun q => n (by rw [q]; rfl)) e'.symm
theorem add_linkM (H : Here w p loose mean mg mb A L h₀ 600 9000) (F : Fr h₀ L s.heap m) {M : MgrR} {n1 n2 : Str} {k1 k2 : Tok} (O : M.Ok prog w) (I : M.In w.params s.heap) (hsz : M.roles.length ≤ 90) (hls : M.links.length ≤ 90) (hnew : (n1, n2) ∉ M.pairs)
   (N : News h₀ L s.heap ((M.al, M.lob) :: (M.ar, M.oar) :: M.roles.map (RoleR.dic w.params)))
   (ret : ∀ (M' : MgrR) h' tk', M'.Ok prog w → M'.In w.params h' → M'.pairs = M.pairs ++ [(n1, n2)] → M'.lps = M.lps ++ [(n1, n2)] → (M'.a = M.a ∧ M'.d = M.d ∧ M'.al = M.al ∧ M'.ar = M.ar ∧ M'.lv = M.lv) → M'.links.length = M.links.length + 1 →
      (∀ n ∈ M'.names, n ∈ M.names ∨ n = n1 ∨ n = n2) → KeepBut M.muts s.heap h' → (∀ p ∈ M'.all w.params, (∃ o, (p.1, o) ∈ M.all w.params) ∨ s.heap.get? p.1 = none) → Q .none { s with heap := h', toks := tk' }) :
   wpAny (model prog w) A (call (.ref 890) [.ref M.a, .str n1 k1, .str n2 k2]) Q E s := by
  have hrest := MgrR.rest_ne O I
  have hal : ∀ q ∈ M.roles.map (RoleR.dic w.params), q.1 ≠ M.al := fun q hq => by
    obtain ⟨r, hr, rfl⟩ := List.mem_map.mp hq
    exact ne_of_obj (I.dic hr) I.al (by simp [RoleR.dob, MgrR.lob])
  have hnar : @Ne Nat M.ar M.al := ne_of_obj I.ar I.al (by rw [O.cls]; simp [MgrR.lob])
  have na : M.a ∉ ((M.al, M.lob) :: (M.ar, M.oar) :: M.roles.map (RoleR.dic w.params)).map (·.1) := off_cls I.a fun c hc => by
    obtain ⟨q, hq, rfl⟩ := List.mem_map.mp hc
    refine ⟨q.2, (N q hq).1, ?_⟩
    rcases List.mem_cons.mp hq with rfl | hq
    · simp [MgrR.lob]
    rcases List.mem_cons.mp hq with rfl | hq
    · dsimp only; rw [O.cls]; simp
    · obtain ⟨r, hr, rfl⟩ := List.mem_map.mp hq; simp [RoleR.dic, RoleR.dob]
  have nd : M.d ∉ ((M.al, M.lob) :: (M.ar, M.oar) :: M.roles.map (RoleR.dic w.params)).map (·.1) := fun hc => by
    obtain ⟨q, hq, e⟩ := List.mem_map.mp hc
    have mu := O.muts
    rw [List.nodup_cons] at mu
    rcases List.mem_cons.mp hq with rfl | hq
    · exact ne_of_obj I.d I.al (by simp [MgrR.lob, MgrR.dob]) e.symm
    rcases List.mem_cons.mp hq with rfl | hq
    · exact mu.1 (e ▸ List.mem_cons_self)
    · obtain ⟨r, hr, rfl⟩ := List.mem_map.mp hq
      exact mu.1 (List.mem_cons_of_mem _ (List.mem_map.mpr ⟨r, hr, e⟩))
  refine H.openA ?_
  clear H
  intro A₀ base outer env dp gd un B hf hke hdp hun X T
  refine wpAny_call ?_
  generalize hRd : M.roles.map (RoleR.dic w.params) = Rd at N hal na nd
  k_dflt k_enter
  intro D' g' L' h' l1 FG' F' N' B' X' T' kG'
  k_lt l1
  dsimp only
  have ba : g'.get? M.a = some (instObj 929 M.d) := kG' _ _ I.a na
  have bd : g'.get? M.d = some (mgrDict w.params M.lv M.tl M.u1 M.u2 M.u3 M.u4 M.u5 M.al M.ar) := kG' M.d (M.dob w.params) I.d nd
  have lRd := l1.2.2
  have g1 : ∀ r ∈ M.roles, ∀ p ∈ r.fix, g'.get? p.1 = some p.2 := fun r hr p hp => by
    refine kG' _ _ (I p (M.mem_fix hr hp)) ?_
    rw [← hRd]
    rcases List.mem_cons.mp hp with rfl | hp
    · exact O.off_led I (I.x hr) (by simp) (ne_of_obj (I.x hr) I.al (by simp [MgrR.lob]))
    rcases List.mem_cons.mp hp with rfl | hp
    · exact O.off_led I (I.rl hr) (by simp) (O.lists r hr).1
    rw [List.mem_singleton.mp hp]
    exact O.off_led I (I.ul hr) (by simp) (O.lists r hr).2
  have g2 : ∀ l ∈ M.links, g'.get? l.t = some l.ob := fun l hl => kG' _ _ (I.link hl) (by
    rw [← hRd]
    exact O.off_led I (I.link hl) (by simp [LinkR.ob]) (ne_of_obj (I.link hl) I.al (by simp [MgrR.lob, LinkR.ob])))
  clear na nd
  unfold MgrR.lob at N'
  k_steps
  rename Fr g' L' _ _ => F1
  rename News g' L' _ _ => N1
  rename (_ < _ ∧ M.al < _ ∧ _) => l3
  rename_i T hx hh
  have eL : (M.links.map fun l => Value.ref l.t).toArray.push (.ref T) = ((M.links ++ [(⟨T, n1, n2, k1, k2, 0⟩ : LinkR)]).map fun l => Value.ref l.t).toArray := by simp
  rw [eL] at N1
  obtain ⟨cap, N1'⟩ : ∃ cap, News g' L' hh ((M.ar, M.oar) :: (M.al, (M.relist (M.links ++ [⟨T, n1, n2, k1, k2, 0⟩]) cap).lob) :: (T, LinkR.ob ⟨T, n1, n2, k1, k2, 0⟩) :: Rd) :=
    ⟨_, newsSub N1 (List.forall_mem_cons.mpr ⟨.tail _ (.tail _ (.tail _ (.head _))), List.forall_mem_cons.mpr ⟨.tail _ (.tail _ (.head _)), List.forall_mem_cons.mpr ⟨.head _, fun p hp => .tail _ (.tail _ (.tail _ (.tail _ hp)))⟩⟩⟩)⟩
  clear N1 eL
  have O1 := O.relist (M.links ++ [⟨T, n1, n2, k1, k2, 0⟩]) cap
  have gR : ∀ p ∈ (M.relist (M.links ++ [⟨T, n1, n2, k1, k2, 0⟩]) cap).rest w.params, g'.get? p.1 = some p.2 ∨ p ∈ ((M.al, (M.relist (M.links ++ [⟨T, n1, n2, k1, k2, 0⟩]) cap).lob) :: (T, LinkR.ob ⟨T, n1, n2, k1, k2, 0⟩) :: Rd) :=
    MgrR.forall_rest (.inl ba) (.inl bd) (.inr (.head _)) (fun r hr => .inr (.tail _ (.tail _ (hRd ▸ List.mem_map_of_mem (f := RoleR.dic w.params) hr)))) (fun r hr => .inl (g1 r hr (r.x, _) (.head _))) (fun r hr => .inl (g1 r hr (r.rl, _) (.tail _ (.head _)))) (fun r hr => .inl (g1 r hr (r.ul, _) (.tail _ (.tail _ (.head _)))))
      fun l hl => by
        rcases List.mem_append.mp hl with hl | hl
        · exact .inl (g2 l hl)
        · rw [List.mem_singleton.mp hl]; exact .inr (.tail _ (.head _))
  have hoff : ∀ p ∈ ((M.al, (M.relist (M.links ++ [⟨T, n1, n2, k1, k2, 0⟩]) cap).lob) :: (T, LinkR.ob ⟨T, n1, n2, k1, k2, 0⟩) :: Rd), @Ne Nat p.1 M.ar := fun p hp => by
    refine memc hp ?_ fun hp => ?_
    · exact Ne.symm hnar
    refine memc hp ?_ fun hp => ?_
    · exact Ne.symm (Nat.ne_of_lt l3.2.2.1)
    · rw [← hRd] at hp
      obtain ⟨r, hr, rfl⟩ := List.mem_map.mp hp
      exact hrest (r.dic w.params) (.tail _ (.tail _ (.tail _ (List.mem_append_left _ (List.mem_map_of_mem hr)))))
  generalize hM1 : M.relist (M.links ++ [⟨T, n1, n2, k1, k2, 0⟩]) cap = M1 at N1' O1 gR hoff
  have i1 : M1.a = M.a := by rw [← hM1]; rfl
  have i2 : M1.ar = M.ar := by rw [← hM1]; rfl
  have i3 : M1.roles = M.roles := by rw [← hM1]; rfl
  have i4 : M1.pairs = M.pairs := by rw [← hM1]; rfl
  have i5 : M1.oar = M.oar := by rw [← hM1]; rfl
  have j1 : M1.d = M.d := by rw [← hM1]; rfl
  have j2 : M1.al = M.al := by rw [← hM1]; rfl
  have j3 : M1.lv = M.lv := by rw [← hM1]; rfl
  have j4 : M1.links = M.links ++ [⟨T, n1, n2, k1, k2, 0⟩] := by rw [← hM1]; rfl
  have T0 : g'.get? T = none := (N1' (T, _) (.tail _ (.tail _ (.head _)))).2.2
  have Ts : s.heap.get? T = none := by
    cases e : s.heap.get? T with
    | none => rfl
    | some ob =>
      have := kG' T ob e (fun q => by
        rcases List.mem_cons.mp q with q | q
        · exact absurd q (Ne.symm (Nat.ne_of_lt l3.2.1))
        rcases List.mem_cons.mp q with q | q
        · exact absurd q (Ne.symm (Nat.ne_of_lt l3.2.2.1))
        · obtain ⟨z, hz, ez⟩ := List.mem_map.mp q
          exact allLt_all l3.2.2.2 z hz ez)
      rw [T0] at this; cases this
  have back : ∀ {h2 : Heap} {m2 : Str → Option Value} {o2 : Obj} {l2 : List (Addr × Obj)}, Fr g' L' h2 m2 → News g' L' h2 ((M.ar, o2) :: l2) → (∀ p ∈ ((M.al, M1.lob) :: (T, LinkR.ob ⟨T, n1, n2, k1, k2, 0⟩) :: Rd), p ∈ l2) → ∀ b, h2.get? b = none → s.heap.get? b = none := fun F2 N2 hsub b hb' => by
    cases e : s.heap.get? b with
    | none => rfl
    | some ob =>
      have := F2.keep _ _ (kG' b ob e (fun q => by
        rcases List.mem_cons.mp q with q | q
        · rw [q, (N2 (M.al, M1.lob) (.tail _ (hsub _ (.head _)))).1] at hb'; cases hb'
        rcases List.mem_cons.mp q with q | q
        · rw [q, (N2 _ (.head _)).1] at hb'; cases hb'
        · obtain ⟨z, hz, ez⟩ := List.mem_map.mp q
          rw [← ez, (N2 z (.tail _ (hsub _ (.tail _ (.tail _ hz))))).1] at hb'; cases hb'))
      rw [hb'] at this; cases this
  generalize hl9 : ((M.al, M1.lob) :: (T, LinkR.ob ⟨T, n1, n2, k1, k2, 0⟩) :: Rd) = l9 at N1' gR hoff back
  refine Stop.mk ?_
  have I1 : (M1.grow M1.oar []).In w.params hh := MgrR.held (fun p hp => kept_get3 F1 N1' (gR p hp) fun q hq => .tail _ hq) (by rw [i2, i5]; exact News.get N1' (.head _)) fun _ q => nomatch q
  rw [MgrR.grow_nil] at I1
  rw [← i2, ← i5] at N1'
  rw [← i2] at hoff
  rw [← i1]
  refine get_roleM (M := M1) ⟨⟨_, _, _, _, B', rfl, rfl, rfl⟩, rfl, by k_room, by k_units, X', T'⟩ F1 O1 I1 (N1' _ (.head _)).2.1 (N1' _ (.head _)).2.2 (by rw [i3]; omega) ?_
  intro o1 rs1 r1 h1 tk1 O2 I2 hr1 hn1 hl1 kb1 fr1
  have new1 : ∀ p ∈ rs1.flatMap (RoleR.ents w.params), h1.get? p.1 = some p.2 ∧ hh.get? p.1 = none := fun p hp => by
    obtain ⟨q, hq, hp⟩ := List.mem_flatMap.mp hp
    refine ⟨I2.ents (List.mem_append_right _ hq) p hp, ?_⟩
    obtain ⟨_, _, f1, f2, f3, f4⟩ := fr1 q hq
    refine memc hp ?_ fun hp => ?_
    · exact f2
    refine memc hp ?_ fun hp => ?_
    · exact f1
    refine memc hp ?_ fun hp => ?_
    · exact f3
    rw [List.mem_singleton.mp hp]; exact f4
  have fr1s : ∀ q ∈ rs1, q.nm = n1 ∧ ∀ p ∈ q.ents w.params, s.heap.get? p.1 = none := fun q hq => ⟨(fr1 q hq).1 ▸ hn1, fun p hp => back F1 (by rw [← i2]; exact N1') (fun _ h => h) _ (new1 p (List.mem_flatMap.mpr ⟨q, hq, hp⟩)).2⟩
  obtain ⟨F2, N2⟩ := led_grow (R := rs1.flatMap (RoleR.ents w.params)) F1 N1' kb1 I2.ar hoff new1
  have hoff1 : ∀ p ∈ rs1.flatMap (RoleR.ents w.params), @Ne Nat p.1 M1.ar := fun p hp q => by have := (new1 p hp).2; rw [show p.1 = M1.ar from q, (N1' _ (.head _)).1] at this; cases this
  dsimp only
  generalize hl8 : l9 ++ rs1.flatMap (RoleR.ents w.params) = l8 at N2
  clear F1 N1' I1 I2 kb1
  have fr1' : ∀ q ∈ rs1, q.nm = n1 ∧ ∀ p ∈ q.ents w.params, hh.get? p.1 = none := fun q hq => ⟨(fr1 q hq).1 ▸ hn1, fun p hp => (new1 p (List.mem_flatMap.mpr ⟨q, hq, hp⟩)).2⟩
  have sub98 : ∀ p ∈ l9, p ∈ l8 := fun p hp => hl8 ▸ List.mem_append_left _ hp
  have subR1 : ∀ q ∈ rs1, ∀ p ∈ q.ents w.params, p ∈ l8 := fun q hq p hp => hl8 ▸ List.mem_append_right _ (List.mem_flatMap.mpr ⟨q, hq, hp⟩)
  have hoff8 : ∀ p ∈ l8, @Ne Nat p.1 M1.ar := fun p hp => by
    rw [← hl8] at hp
    rcases List.mem_append.mp hp with hp | hp
    · exact hoff p hp
    · exact hoff1 p hp
  clear fr1 new1
  k_steps
  rename Fr g' L' _ _ => F3
  rename News g' L' _ _ => N3
  rename_i h3
  refine Stop.mk ?_
  have I3 : (M1.grow o1 rs1).In w.params h3 := MgrR.held (fun p hp => kept_get3 F3 N3 (gR p hp) fun q hq => .tail _ (sub98 q hq)) (News.get N3 (.head _)) fun q hq p hp => News.get N3 (.tail _ (subR1 q hq p hp))
  rw [← i1]
  have ba1 : (M1.grow o1 rs1).a = M1.a := rfl
  rw [← ba1]
  have N3' : News g' L' h3 (((M1.grow o1 rs1).ar, (M1.grow o1 rs1).oar) :: l8) := N3
  refine get_roleM (M := M1.grow o1 rs1) ⟨⟨_, _, _, _, B', rfl, rfl, rfl⟩, rfl, by k_room, by k_units, X', T'⟩ F3 O2 I3 (N3' _ (.head _)).2.1 (N3' _ (.head _)).2.2 (by show (M1.roles ++ rs1).length ≤ 1000; rw [List.length_append, i3]; omega) ?_
  intro o2 rs2 r2 h4 tk4 O4 I4 hr2 hn2 hl2 kb2 fr2
  have new2 : ∀ p ∈ rs2.flatMap (RoleR.ents w.params), h4.get? p.1 = some p.2 ∧ h3.get? p.1 = none := fun p hp => by
    obtain ⟨q, hq, hp⟩ := List.mem_flatMap.mp hp
    refine ⟨I4.ents (List.mem_append_right _ hq) p hp, ?_⟩
    obtain ⟨_, _, f1, f2, f3, f4⟩ := fr2 q hq
    refine memc hp ?_ fun hp => ?_
    · exact f2
    refine memc hp ?_ fun hp => ?_
    · exact f1
    refine memc hp ?_ fun hp => ?_
    · exact f3
    rw [List.mem_singleton.mp hp]; exact f4
  have fr2s : ∀ q ∈ rs2, q.nm = n2 ∧ ∀ p ∈ q.ents w.params, s.heap.get? p.1 = none := fun q hq => ⟨(fr2 q hq).1 ▸ hn2, fun p hp => back F3 (by rw [← i2]; exact N3') sub98 _ (new2 p (List.mem_flatMap.mpr ⟨q, hq, hp⟩)).2⟩
  obtain ⟨F4, N4⟩ := led_grow (R := rs2.flatMap (RoleR.ents w.params)) F3 N3' kb2 I4.ar hoff8 new2
  have fr2' : ∀ q ∈ rs2, q.nm = n2 ∧ ∀ p ∈ q.ents w.params, h3.get? p.1 = none := fun q hq => ⟨(fr2 q hq).1 ▸ hn2, fun p hp => (new2 p (List.mem_flatMap.mpr ⟨q, hq, hp⟩)).2⟩
  rw [MgrR.grow_grow] at O4 I4
  generalize hl7 : l8 ++ rs2.flatMap (RoleR.ents w.params) = l7 at N4
  have sub87 : ∀ p ∈ l8, p ∈ l7 := fun p hp => hl7 ▸ List.mem_append_left _ hp
  have subR2 : ∀ q ∈ rs2, ∀ p ∈ q.ents w.params, p ∈ l7 := fun q hq p hp => hl7 ▸ List.mem_append_right _ (List.mem_flatMap.mpr ⟨q, hq, hp⟩)
  have hr1' : r1 ∈ M1.roles ++ (rs1 ++ rs2) := by rw [← List.append_assoc]; exact List.mem_append_left _ hr1
  have hr2' : r2 ∈ M1.roles ++ (rs1 ++ rs2) := by rw [← List.append_assoc]; exact hr2
  have subR : ∀ q ∈ rs1 ++ rs2, ∀ p ∈ q.ents w.params, p ∈ l7 := fun q hq p hp => by
    rcases List.mem_append.mp hq with hq | hq
    · exact sub87 _ (subR1 q hq p hp)
    · exact subR2 q hq p hp
  have hl9d : ∀ r ∈ M1.roles, r.dic w.params ∈ l9 := fun r hr => by rw [← hl9, ← hRd]; rw [i3] at hr; exact .tail _ (.tail _ (List.mem_map_of_mem hr))
  have rents : ∀ r ∈ M1.roles ++ (rs1 ++ rs2), r.dic w.params ∈ l7 ∧ (g'.get? r.x = some (instObj 814 r.dx) ∨ (r.x, instObj 814 r.dx) ∈ l7) := fun r hr => by
    rcases List.mem_append.mp hr with hr | hr
    · exact ⟨sub87 _ (sub98 _ (hl9d r hr)), .inl (g1 r (i3 ▸ hr) (r.x, _) (.head _))⟩
    · exact ⟨subR r hr _ (.head _), .inr (subR r hr (r.x, _) (.tail _ (.head _)))⟩
  have x1 := (rents r1 hr1').2
  have x2 : g'.get? r1.dx = some (roleDict w.params r1.nm r1.t0 r1.t1 r1.t2 r1.t3 r1.t4 r1.t5 r1.rl r1.ul r1.c1 r1.c2) ∨ (r1.dx, roleDict w.params r1.nm r1.t0 r1.t1 r1.t2 r1.t3 r1.t4 r1.t5 r1.rl r1.ul r1.c1 r1.c2) ∈ l7 := .inr (rents r1 hr1').1
  dsimp only
  clear F3 N3 N3' I3 I4 kb2 fr2 new2
  k_steps
  rename Fr g' L' _ _ => F5
  rename News g' L' _ _ => N5
  rename_i h5
  refine Stop.mk ?_
  have I5 : (M1.grow o2 (rs1 ++ rs2)).In w.params h5 := MgrR.held (fun p hp => kept_get3 F5 N5 (gR p hp) fun q hq => .tail _ (sub87 _ (sub98 q hq))) (News.get N5 (.head _)) fun q hq p hp => News.get N5 (.tail _ (subR q hq p hp))
  have d0 : ∀ r ∈ M1.roles ++ (rs1 ++ rs2), g'.get? r.dx = none := fun r hr => (N5 (r.dic w.params) (.tail _ (rents r hr).1)).2.2
  have dL : ∀ r ∈ M1.roles ++ (rs1 ++ rs2), r.dx ≠ L' := fun r hr => (N5 (r.dic w.params) (.tail _ (rents r hr).1)).2.1
  have back5 := back F5 (by rw [← i2]; exact N5) (fun p hp => sub87 _ (sub98 p hp))
  refine add_roleM (M := M1.grow o2 (rs1 ++ rs2)) ⟨⟨_, _, _, _, B', rfl, rfl, rfl⟩, rfl, by k_room, by k_units, X', T'⟩ F5 O4 I5 hr1' hr2' (newsSub N5 (List.forall_mem_cons.mpr ⟨.tail _ (rents r1 hr1').1, List.forall_mem_cons.mpr ⟨.tail _ (rents r2 hr2').1, List.forall_mem_nil _⟩⟩))
    (by show (M1.roles ++ (rs1 ++ rs2)).length ≤ 1000; rw [List.length_append, List.length_append, i3]; omega) (by show (r1.nm, r2.nm) ∉ M1.pairs; rw [hn1, hn2, i4]; exact hnew) ?_
  intro D D2 h6 tk6 O6 I6 kb6 f1 f2
  have F6 := Fr.but F5 kb6 (notin2 (Ne.symm (dL r1 hr1')) (Ne.symm (dL r2 hr2'))) (fun b hb => by
    refine memc hb ?_ fun hb => ?_
    · exact d0 r1 hr1'
    · rw [List.mem_singleton.mp hb]; exact d0 r2 hr2')
  have N6 : News g' L' h6 [] := fun _ q => nomatch q
  clear F5 N5 I5 x1 x2
  dsimp only
  k_steps
  have frs : ∀ q ∈ rs1 ++ rs2, (q.nm = n1 ∨ q.nm = n2) ∧ ∀ p ∈ q.ents w.params, s.heap.get? p.1 = none := fun q hq => by
    rcases List.mem_append.mp hq with hq | hq
    · exact ⟨.inl (fr1s q hq).1, (fr1s q hq).2⟩
    · exact ⟨.inr (fr2s q hq).1, (fr2s q hq).2⟩
  have hFr : ∀ r ∈ M1.roles ++ (rs1 ++ rs2), (linkF r1.x r2.x D D2 (r1.as ++ [r2.x]) (r2.bs ++ [r1.x]) 0 0 r).rl = r.rl ∨ (linkF r1.x r2.x D D2 (r1.as ++ [r2.x]) (r2.bs ++ [r1.x]) 0 0 r).rl = D := fun r _ => by
    unfold linkF setAs setBs; split <;> split <;> first | exact .inl rfl | exact .inr rfl
  have hFu : ∀ r ∈ M1.roles ++ (rs1 ++ rs2), (linkF r1.x r2.x D D2 (r1.as ++ [r2.x]) (r2.bs ++ [r1.x]) 0 0 r).ul = r.ul ∨ (linkF r1.x r2.x D D2 (r1.as ++ [r2.x]) (r2.bs ++ [r1.x]) 0 0 r).ul = D2 := fun r _ => by
    unfold linkF setAs setBs; split <;> split <;> first | exact .inl rfl | exact .inr rfl
  have old : ∀ {b : Addr} {o : Obj}, (b, o) ∈ M.all w.params → (∃ o, (b, o) ∈ M.all w.params) ∨ s.heap.get? b = none := fun h => .inl ⟨_, h⟩
  have sp : ∀ {r : RoleR} {p : Addr × Obj}, r ∈ M1.roles ++ (rs1 ++ rs2) → p ∈ r.ents w.params → (∃ o, (p.1, o) ∈ M.all w.params) ∨ s.heap.get? p.1 = none := fun {r p} hr hp => by
    rcases List.mem_append.mp hr with hr | hr
    · refine memc hp ?_ fun hp => ?_
      · exact old (M.mem_dic (i3 ▸ hr))
      · exact old (M.mem_fix (i3 ▸ hr) hp)
    · exact .inr ((frs r hr).2 p hp)
  refine ret _ _ _ O6 I6 ?_ ?_ ⟨i1, j1, j2, i2, j3⟩ ?_ ?_ ?_ ?_
  · show M1.pairs ++ [(r1.nm, r2.nm)] = _; rw [hn1, hn2, i4]
  · show M1.links.map _ = M.links.map _ ++ _; rw [j4, List.map_append]; rfl
  · show M1.links.length = _; rw [j4, List.length_append]; rfl
  · intro n hn
    obtain ⟨r, hr, rfl⟩ := List.mem_map.mp hn
    obtain ⟨q, hq, rfl⟩ := List.mem_map.mp hr
    rw [(linkF_same q).2.2]
    rcases List.mem_append.mp hq with hq | hq
    · exact .inl (List.mem_map_of_mem (i3 ▸ hq))
    · exact .inr (frs q hq).1
  · intro b o hb e
    have hg : g'.get? b = some o := kG' b o e (fun q => by
      rcases List.mem_cons.mp q with q | q
      · exact hb (q ▸ .tail _ (.head _))
      rcases List.mem_cons.mp q with q | q
      · exact hb (q ▸ .tail _ (.tail _ (.head _)))
      · obtain ⟨z, hz, ez⟩ := List.mem_map.mp q
        rw [← hRd] at hz
        obtain ⟨r, hr, rfl⟩ := List.mem_map.mp hz
        exact hb (ez ▸ .tail _ (.tail _ (.tail _ (List.mem_map.mpr ⟨r, hr, rfl⟩)))))
    exact F6.keep b o hg
  · have eqd : ∀ {b b' : Addr}, b' = b → ((∃ o, (b, o) ∈ M.all w.params) ∨ s.heap.get? b = none) → ((∃ o, (b', o) ∈ M.all w.params) ∨ s.heap.get? b' = none) := fun e h => e ▸ h
    refine MgrR.forall_all (eqd i1 (old (.head _))) (eqd j1 (old (.tail _ (.head _)))) (eqd j2 (old (.tail _ (.tail _ (.head _))))) (eqd i2 (old (.tail _ (.tail _ (.tail _ (.head _)))))) ?_ ?_ ?_ ?_ ?_
    · intro r hr
      obtain ⟨q, hq, rfl⟩ := List.mem_map.mp hr
      rw [(linkF_same q).2.1]
      exact sp hq (p := q.dic w.params) (.head _)
    · intro r hr
      obtain ⟨q, hq, rfl⟩ := List.mem_map.mp hr
      rw [(linkF_same q).1]
      exact sp hq (p := (q.x, instObj 814 q.dx)) (.tail _ (.head _))
    · intro r hr
      obtain ⟨q, hq, rfl⟩ := List.mem_map.mp hr
      rcases hFr q hq with e | e
      · rw [e]; exact sp hq (p := (q.rl, listOf (q.as.map Value.ref).toArray q.na)) (.tail _ (.tail _ (.head _)))
      · rw [e]; exact .inr (back5 _ f1)
    · intro r hr
      obtain ⟨q, hq, rfl⟩ := List.mem_map.mp hr
      rcases hFu q hq with e | e
      · rw [e]; exact sp hq (p := (q.ul, listOf (q.bs.map Value.ref).toArray q.nb)) (.tail _ (.tail _ (.tail _ (.head _))))
      · rw [e]; exact .inr (back5 _ f2)
    · intro l hl
      have hl' : l ∈ M1.links := hl
      rw [j4] at hl'
      rcases List.mem_append.mp hl' with hl' | hl'
      · exact old (M.mem_link hl')
      · rw [List.mem_singleton.mp hl']; exact .inr Ts
end
end Mine
namespace Mine
open PyProof.Rows.LCg PyProof.Rows.LCt
section
variable {prog : Program} {w : World} {p : Program} {loose : List Str} {mean : ExcName → Option Value} {mg mb : Str → Option Value}
  {A : Around} {h₀ : Heap} {L : Addr} {m : Str → Option Value} {s : Shared} {Q : Value → Shared → Prop} {E : Value → Shared → Prop}
theorem clearM (H : Here w p loose mean mg mb A L h₀ 600 9000) (F : Fr h₀ L s.heap m) {M : MgrR} (O : M.Ok prog w) (I : M.In w.params s.heap)
   (N : News h₀ L s.heap [(M.d, M.dob w.params)])
   (ret : ∀ h' tk' al ar, h'.get? M.d = some (mgrDict w.params M.lv M.tl M.u1 M.u2 M.u3 M.u4 M.u5 al ar) → h'.get? al = some (listOf #[] 0) → h'.get? ar = some (dictOf [] 0) → @Ne Nat al ar → (ar == sysModules) = false → s.heap.get? al = none → s.heap.get? ar = none → KeepBut [M.d] s.heap h' → Q .none { s with heap := h', toks := tk' }) :
   wpAny (model prog w) A (call (.ref 883) [.ref M.a]) Q E s := by
  have ia := I.a
  have nad : @Ne Nat M.a M.d := ne_of_obj I.a I.d (by simp [MgrR.dob])
  refine H.openA ?_
  clear H
  intro A₀ base outer env dp gd un B hf hke hdp hun X T
  unfold MgrR.dob at N
  refine wpAny_call ?_
  k_dflt k_enter
  intro g' L' h' FG' F' N' B' X' T' kG'
  dsimp only
  have ba := kG' _ _ ia (notin1 nad)
  k_steps
  rename ((_ == sysModules) = false) => lo9
  refine ret _ _ _ _ (News.get (h₀ := g') (by k_asm) (by k_mem)) (News.get (h₀ := g') (by k_asm) (by k_mem)) (News.get (h₀ := g') (by k_asm) (by k_mem)) (by k_ne) lo9 (GSub.fresh kG' (by k_asm) (by k_mem) (notin1 (by k_ne))) (GSub.fresh kG' (by k_asm) (by k_mem) (notin1 (by k_ne))) (KeepBut.of kG' fun b o e => Fr.keep (by k_asm) b o e)
end
end Mine
namespace Mine
open PyProof.Rows.LCg PyProof.Rows.LCt
section
variable {prog : Program} {w : World} {p : Program} {loose : List Str} {mean : ExcName → Option Value} {mg mb : Str → Option Value}
  {A : Around} {h₀ : Heap} {L : Addr} {m : Str → Option Value} {s : Shared} {Q : Value → Shared → Prop} {E : Value → Shared → Prop}
local macro_rules | `(tactic| tb_start) => `(tactic| exact kept_get3)
local macro_rules | `(tactic| walk_at "exec For Name Call cons nil") => `(tactic| (refine Stop.of ?_))
theorem mfn_in {env₀ ev : Env} {L' a d al ar : Addr} {g : Heap} {mx : Str → Option Value} {oL : Obj} {R : List (Addr × Obj)} {n1 n2 : Str} {k1 k2 : Tok} {lv : Int} {tl t1 t2 t3 t4 t5 : Tok}
   (X : (hd.heap_1 w.params).In h₀) (T : Top p loose mean mg mb h₀) (kh : Keep h₀ g) (hL0 : h₀.get? L = none) (Fx : Fr g L' s.heap mx) (N : News g L' s.heap ((L, oL) :: R)) (hR : ∀ p ∈ R, @Ne Nat p.1 L) (dL : ∃ es ep, oL.data = .dict es ep)
   (hf₀ : env₀.frame = some L) (hk₀ : env₀.scope.kind = .function) (hf : ev.frame = some L') (hk : ev.scope.kind = .function) (hA : A.frames = some [env₀]) (hh : (A.deeper ev).handled = none) (hdp : (A.deeper ev).depth + 80 < recursionLimit) (hun : (A.deeper ev).units + 400 < cLine)
   (ba : g.get? a = some (instObj 929 d)) (bd : g.get? d = some (mgrDict w.params lv tl t1 t2 t3 t4 t5 al ar)) (na : @Ne Nat a L) (nd : @Ne Nat d L)
   (ret : ∀ h' tk' sl, Fr g L' h' mx → News g L' h' ((L, { oL with slots := sl }) :: R) → Q (.bool false) { s with heap := h', toks := tk' }) :
   wpAny (model prog w) (A.deeper ev) (call (.ref 848) [.ref a, .str n1 k1, .str n2 k2, .ref 698]) Q E s := by
  obtain ⟨oD, esD, epD, eD, dD⟩ := Ns.obj Fx.ns
  have nf : ∀ {k : ScopeKind}, k = .function → k ≠ .module := fun e q => by rw [e] at q; cases q
  have inG : ∀ {b : Addr} {o : Obj}, g.get? b = some o → @Ne Nat b L' := fun e q => by rw [show _ = _ from q, fr_none Fx] at e; cases e
  refine mfn_raw (l := [ev, env₀]) (frs := [(L', oD), (L, oL)]) (h₀ := h₀) ⟨Around.frames_deeper hA, ⟨nf hk, hf, ⟨esD, epD, dD⟩, nf hk₀, hf₀, dL, trivial⟩, fun q hq => ?_, fun q hq => ?_, fun b o e => Fx.keep b o (kh b o e), hh, hdp, hun, X, T⟩ (Fx.keep _ _ ba) (Fx.keep _ _ bd) (notin2 (inG ba) na) (notin2 (inG bd) nd) ?_
  · rcases List.mem_cons.mp hq with rfl | hq
    · exact eD
    · rw [List.mem_singleton.mp hq]; exact (N _ (.head _)).1
  · rcases List.mem_cons.mp hq with rfl | hq
    · exact none_of_keep kh (fr_none Fx)
    · rw [List.mem_singleton.mp hq]; exact hL0
  · intro h' tk' frs' SU e kb
    obtain ⟨sl, F', N'⟩ := back1 Fx N hR eD SU e kb
    exact ret h' tk' sl F' N'
theorem delete_linkM (H : Here w p loose mean mg mb A L h₀ 600 9000) (h1f : ∃ env₁, A.frames = some [env₁]) (F : Fr h₀ L s.heap m) (hG : AllBare s.gens) {M : MgrR} {n1 n2 : Str} {k1 k2 : Tok} {ps : Array Value} (htr : TriplesOk ps.toList) (O : M.Ok prog w) (I : M.In w.params s.heap) (hoff : ∀ p ∈ M.all w.params, @Ne Nat p.1 L) (hsz : M.roles.length ≤ 90) (hls : M.links.length ≤ 90) (hsync : M.lps = M.pairs) (hok : ∀ l ∈ M.links, PyData.strOk l.n1 = true ∧ PyData.strOk l.n2 = true) (hk : PyData.strOk n1 = true ∧ PyData.strOk n2 = true)
   (N : News h₀ L s.heap ((M.al, M.lob) :: (M.ar, M.oar) :: (742, tabObj ps) :: M.roles.map (RoleR.dic w.params)))
   (ret : ∀ (M' : MgrR) (s' : Shared) ps', M'.Ok prog w → M'.In w.params s'.heap → M'.pairs = cut M.pairs n1 n2 → M'.lps = cut M.pairs n1 n2 → (M'.a = M.a ∧ M'.d = M.d ∧ M'.al = M.al ∧ M'.ar = M.ar ∧ M'.lv = M.lv) → M'.names = M.names → (∀ l ∈ M'.links, l ∈ M.links) → M'.links.length ≤ M.links.length →
     Fr h₀ L s'.heap m → KeepBut (L :: 742 :: M.muts) s.heap s'.heap → (∀ p ∈ M'.all w.params, (∃ o, (p.1, o) ∈ M.all w.params) ∨ s.heap.get? p.1 = none) → s'.heap.get? 742 = some (tabObj ps') → TriplesOk ps'.toList → AllBare s'.gens → s'.os = s.os → Q .none s') :
   wpAny (model prog w) A (call (.ref 897) [.ref M.a, .str n1 k1, .str n2 k2]) Q E s := by
  have hrest := MgrR.rest_ne O I
  have i742 : s.heap.get? 742 = some (tabObj ps) := (N _ (.tail _ (.tail _ (.head _)))).1
  have htab := MgrR.off_tab O I i742
  have hal : ∀ q ∈ M.roles.map (RoleR.dic w.params), q.1 ≠ M.al := fun q hq => by
    obtain ⟨r, hr, rfl⟩ := List.mem_map.mp hq
    exact ne_of_obj (I.dic hr) I.al (by simp [RoleR.dob, MgrR.lob])
  have hnar : @Ne Nat M.ar M.al := ne_of_obj I.ar I.al (by rw [O.cls]; simp [MgrR.lob])
  have na : M.a ∉ ((M.al, M.lob) :: (M.ar, M.oar) :: (742, tabObj ps) :: M.roles.map (RoleR.dic w.params)).map (·.1) := off_cls I.a fun c hc => by
    obtain ⟨q, hq, rfl⟩ := List.mem_map.mp hc
    refine ⟨q.2, (N q hq).1, ?_⟩
    rcases List.mem_cons.mp hq with rfl | hq
    · simp [MgrR.lob]
    rcases List.mem_cons.mp hq with rfl | hq
    · dsimp only; rw [O.cls]; simp
    rcases List.mem_cons.mp hq with rfl | hq
    · simp
    · obtain ⟨r, hr, rfl⟩ := List.mem_map.mp hq; simp [RoleR.dic, RoleR.dob]
  have nd : M.d ∉ ((M.al, M.lob) :: (M.ar, M.oar) :: (742, tabObj ps) :: M.roles.map (RoleR.dic w.params)).map (·.1) := fun hc => by
    obtain ⟨q, hq, e⟩ := List.mem_map.mp hc
    have mu := O.muts
    rw [List.nodup_cons] at mu
    rcases List.mem_cons.mp hq with rfl | hq
    · exact ne_of_obj I.d I.al (by simp [MgrR.lob, MgrR.dob]) e.symm
    rcases List.mem_cons.mp hq with rfl | hq
    · exact mu.1 (e ▸ List.mem_cons_self)
    rcases List.mem_cons.mp hq with rfl | hq
    · exact htab (M.d, M.dob w.params) (.tail _ (.head _)) e.symm
    · obtain ⟨r, hr, rfl⟩ := List.mem_map.mp hq
      exact mu.1 (List.mem_cons_of_mem _ (List.mem_map.mpr ⟨r, hr, e⟩))
  refine H.openC ?_
  clear H
  intro A₀ base outer env B hA hf hke hh hdp hun X T
  obtain ⟨env₁, h1f⟩ := h1f
  rw [hA] at h1f
  obtain rfl : outer = [] := by cases h1f; rfl
  obtain ⟨hd', dp, fr, gd, un⟩ := A
  dsimp only at hA hh hdp hun; subst hA; subst hh
  refine wpAny_call ?_
  generalize hRd : M.roles.map (RoleR.dic w.params) = Rd at N hal na nd
  k_dflt (refine' enterP ?k1 ?k2 ?k3 ?k4 ?k5 ?kA ?kF ?kK ?k6 ?k7 ?k8 ?kP ?kG ?kB ?_ ?c2 ?c3 ?c4 ?c5; (case kA => exact rfl); (case kF => assumption); (case kK => assumption); (case k1 => k_asm); (case k2 => k_asm); (case k3 => k_asm); (case k4 => k_asm); (case k5 => k_asm); (case k6 => k_is); (case k7 => k_is); (case k8 => k_room); (case kP => exact (rfl : _ = some (({ cls := .type "tuple", data := .seq ([] : List Value).toArray } : Obj), _))); (case kG => exact fun _ => rfl); (case kB => exact fun _ => locs rfl); (case c5 => decide); (case c2 => exact rfl); (case c3 => exact rfl); (case c4 => exact rfl); k_whole)
  intro D' g' L' h' l1 FG' F' N' B' X' T' kG'
  k_lt l1
  dsimp only
  have ba : g'.get? M.a = some (instObj 929 M.d) := kG' _ _ I.a na
  have bd : g'.get? M.d = some (mgrDict w.params M.lv M.tl M.u1 M.u2 M.u3 M.u4 M.u5 M.al M.ar) := kG' M.d (M.dob w.params) I.d nd
  clear na nd i742
  unfold MgrR.lob at N'
  have g2 : ∀ l ∈ M.links, g'.get? l.t = some l.ob := fun l hl => kG' _ _ (I.link hl) (fun q => by
    obtain ⟨z, hz, ez⟩ := List.mem_map.mp q
    rcases List.mem_cons.mp hz with rfl | hz
    · exact ne_of_obj (I.link hl) I.al (by simp [MgrR.lob, LinkR.ob]) ez.symm
    rcases List.mem_cons.mp hz with rfl | hz
    · exact ne_of_obj (I.link hl) I.ar (by rw [O.cls]; simp [LinkR.ob]) ez.symm
    rcases List.mem_cons.mp hz with rfl | hz
    · exact htab l.ent (M.mem_link hl) ez.symm
    · rw [← hRd] at hz
      obtain ⟨r, hr, rfl⟩ := List.mem_map.mp hz
      exact ne_of_obj (I.link hl) (I.dic hr) (by simp [RoleR.dob, LinkR.ob]) ez.symm)
  k_steps
  rename Fr g' L' _ _ => F1
  rename News g' L' _ _ => N1
  dsimp only
  refine links_notIn (ls := M.links) (x := ⟨_, n1, n2, k1, k2, 0⟩) (News.get N1 (.tail _ (.tail _ (.head _)))) (fun l hl => F1.keep _ _ (g2 l hl)) (News.get N1 (.head _)) hok hk (by k_units) ?_
  rw [show (M.links.map fun l => (l.n1, l.n2)) = M.pairs from hsync]
  dsimp only
  by_cases hin : (n1, n2) ∈ M.pairs
  · rw [decide_eq_false (not_not_intro hin)]
    k_steps
    rename Fr g' L' _ _ => F1
    rename News g' L' _ _ => N1
    rename_i T2 hx1 hh1
    have i7al : @Ne Nat M.al 742 := htab (M.al, M.lob) (.tail _ (.tail _ (.head _)))
    refine links_remove (ls := M.links) (x := ⟨T2, n1, n2, k1, k2, 0⟩) (nal := M.nal) (News.get N1 (.tail _ (.tail _ (.tail _ (.head _))))) (fun l hl => F1.keep _ _ (g2 l hl)) (News.get N1 (.head _)) hok hk (by k_units) (by rw [show (M.links.map fun l => (l.n1, l.n2)) = M.pairs from hsync]; exact hin) (by rw [show (M.links.map fun l => (l.n1, l.n2)) = M.pairs from hsync]; exact O.pairs) (by omega) ?_
    intro ls cap hh hsubl hcut hlen eal kb0
    dsimp only at hcut
    rw [show (M.links.map fun l => (l.n1, l.n2)) = M.pairs from hsync] at hcut
    have g1 : ∀ r ∈ M.roles, ∀ p ∈ r.fix, g'.get? p.1 = some p.2 := fun r hr p hp => by
      have hpa := M.mem_fix (P := w.params) hr hp
      refine kG' _ _ (I p hpa) (fun q => ?_)
      have hcl : p.2.cls ≠ .type "dict" ∧ @Ne Nat p.1 M.al := by
        refine memc hp ?_ fun hp => ?_
        · exact ⟨by simp, ne_of_obj (I.x hr) I.al (by simp [MgrR.lob])⟩
        refine memc hp ?_ fun hp => ?_
        · exact ⟨by simp, (O.lists r hr).1⟩
        rw [List.mem_singleton.mp hp]
        exact ⟨by simp, (O.lists r hr).2⟩
      obtain ⟨z, hz, ez⟩ := List.mem_map.mp q
      rcases List.mem_cons.mp hz with rfl | hz
      · exact hcl.2 ez.symm
      rcases List.mem_cons.mp hz with rfl | hz
      · exact ne_of_obj (I p hpa) I.ar (by rw [O.cls]; exact hcl.1) ez.symm
      rcases List.mem_cons.mp hz with rfl | hz
      · exact htab p hpa ez.symm
      · rw [← hRd] at hz
        obtain ⟨r', hr', rfl⟩ := List.mem_map.mp hz
        exact ne_of_obj (I p hpa) (I.dic hr') (fun q => hcl.1 (by rw [q]; rfl)) ez.symm
    have N2 : News g' L' hh ((M.ar, M.oar) :: (M.al, (M.relist ls cap).lob) :: (742, tabObj ps) :: Rd) := fun p hp => by
      refine memc hp ?_ fun hp => ?_
      · have z := N1 (M.ar, M.oar) (.tail _ (.tail _ (.tail _ (.tail _ (.head _)))))
        exact ⟨kb0 _ _ (notin1 hnar) z.1, z.2⟩
      refine memc hp ?_ fun hp => ?_
      · exact ⟨eal, (N1 _ (.tail _ (.tail _ (.tail _ (.head _))))).2⟩
      refine memc hp ?_ fun hp => ?_
      · have z := N1 (742, tabObj ps) (.tail _ (.tail _ (.tail _ (.tail _ (.tail _ (.head _))))))
        exact ⟨kb0 _ _ (notin1 (Ne.symm i7al)) z.1, z.2⟩
      · have z := N1 p (.tail _ (.tail _ (.tail _ (.tail _ (.tail _ (.tail _ hp))))))
        exact ⟨kb0 _ _ (notin1 (hal p hp)) z.1, z.2⟩
    have F2 := Fr.but F1 kb0 (notin1 (Ne.symm (N1 _ (.tail _ (.tail _ (.tail _ (.head _))))).2.1)) (fun b hb => by rw [List.mem_singleton.mp hb]; exact (N1 _ (.tail _ (.tail _ (.tail _ (.head _))))).2.2)
    clear F1 N1
    dsimp only
    have O1 := O.relist ls cap
    have gR : ∀ p ∈ (M.relist ls cap).rest w.params, g'.get? p.1 = some p.2 ∨ p ∈ ((M.al, (M.relist ls cap).lob) :: (742, tabObj ps) :: Rd) :=
      MgrR.forall_rest (.inl ba) (.inl bd) (.inr (.head _)) (fun r hr => .inr (.tail _ (.tail _ (hRd ▸ List.mem_map_of_mem (f := RoleR.dic w.params) hr)))) (fun r hr => .inl (g1 r hr (r.x, _) (.head _))) (fun r hr => .inl (g1 r hr (r.rl, _) (.tail _ (.head _)))) (fun r hr => .inl (g1 r hr (r.ul, _) (.tail _ (.tail _ (.head _)))))
        fun l hl => .inl (g2 l (hsubl l hl))
    generalize hM1 : M.relist ls cap = M1 at N2 O1 gR
    have i1 : M1.a = M.a := by rw [← hM1]; rfl
    have i2 : M1.ar = M.ar := by rw [← hM1]; rfl
    have i3 : M1.roles = M.roles := by rw [← hM1]; rfl
    have i4 : M1.pairs = M.pairs := by rw [← hM1]; rfl
    have i5 : M1.oar = M.oar := by rw [← hM1]; rfl
    have inM : ∀ {hx : Heap} {mx : Str → Option Value} {lx : List (Addr × Obj)}, Fr g' L' hx mx → News g' L' hx lx → (∀ p ∈ ((M.ar, M.oar) :: (M.al, M1.lob) :: (742, tabObj ps) :: Rd), p ∈ lx) → M1.In w.params hx := fun F N hs => by
      have := MgrR.held (M := M1) (o := M1.oar) (rs := []) (fun p hp => kept_get3 F N (gR p hp) fun q hq => hs _ (.tail _ hq)) (by rw [i2, i5]; exact News.get N (hs _ (.head _))) fun _ q => nomatch q
      rwa [MgrR.grow_nil] at this
    have hn1 : n1 ∈ M1.names := by unfold MgrR.names; rw [i3]; exact (O.ends _ hin).1
    have hn2 : n2 ∈ M1.names := by unfold MgrR.names; rw [i3]; exact (O.ends _ hin).2
    k_steps
    rename Fr g' L' _ _ => F3
    rename News g' L' _ _ => N3
    refine Stop.mk ?_
    rw [← i1]
    refine get_role_thereM (M := M1) ⟨⟨_, _, _, _, B', rfl, rfl, rfl⟩, rfl, by k_room, by k_units, X', T'⟩ F3 O1 (inM F3 N3 fun _ h => h) (by rw [i2]; exact (N3 _ (.head _)).2.1) (by rw [i2]; exact (N3 _ (.head _)).2.2) (by rw [i3]; omega) hn1 ?_
    intro r1 h3 tk3 hr1 e1 kp3
    have F4 := F3.keeps kp3
    have N4 := N3.grown kp3
    clear F3 N3
    dsimp only
    k_steps
    rename Fr g' L' _ _ => F5
    rename News g' L' _ _ => N5
    refine Stop.mk ?_
    rw [← i1]
    refine get_role_thereM (M := M1) ⟨⟨_, _, _, _, B', rfl, rfl, rfl⟩, rfl, by k_room, by k_units, X', T'⟩ F5 O1 (inM F5 N5 fun _ h => h) (by rw [i2]; exact (N5 _ (.head _)).2.1) (by rw [i2]; exact (N5 _ (.head _)).2.2) (by rw [i3]; omega) hn2 ?_
    intro r2 h5 tk5 hr2 e2 kp5
    have F6 := F5.keeps kp5
    have N6 := N5.grown kp5
    clear F5 N5
    dsimp only
    have x1 : g'.get? r1.x = some (instObj 814 r1.dx) := g1 r1 (i3 ▸ hr1) (r1.x, _) (.head _)
    have x2 : g'.get? r1.dx = some (roleDict w.params r1.nm r1.t0 r1.t1 r1.t2 r1.t3 r1.t4 r1.t5 r1.rl r1.ul r1.c1 r1.c2) ∨ (r1.dx, roleDict w.params r1.nm r1.t0 r1.t1 r1.t2 r1.t3 r1.t4 r1.t5 r1.rl r1.ul r1.c1 r1.c2) ∈ Rd := .inr (hRd ▸ List.mem_map_of_mem (f := RoleR.dic w.params) (i3 ▸ hr1))
    k_steps
    rename Fr g' L' _ _ => F7
    rename News g' L' _ _ => N7
    refine Stop.mk ?_
    have I7 := inM F7 N7 fun _ h => h
    have md : ∀ r ∈ M1.roles, r.dic w.params ∈ Rd := fun r hr => hRd ▸ List.mem_map_of_mem (f := RoleR.dic w.params) (i3 ▸ hr)
    refine remove_roleM (M := M1) ⟨⟨_, _, _, _, B', rfl, rfl, rfl⟩, rfl, by k_room, by k_units, X', T'⟩ F7 (by exact hG) O1 I7 hr1 hr2 (newsSub N7 (List.forall_mem_cons.mpr ⟨.tail _ (.tail _ (.tail _ (md r1 hr1))), List.forall_mem_cons.mpr ⟨.tail _ (.tail _ (.tail _ (md r2 hr2))), List.forall_mem_cons.mpr ⟨.tail _ (.tail _ (.head _)), List.forall_mem_nil _⟩⟩⟩)) htr (by rw [i3]; omega) (by rw [e1, e2, i4]; exact hin) ?_
    intro D E2 nD nE s8 ps8 O8 I8 kb8 f1 f2 e8 htr8 hG8 hos8
    have d0 : ∀ r ∈ M1.roles, g'.get? r.dx = none ∧ r.dx ≠ L' := fun r hr => ⟨(N7 (r.dic w.params) (.tail _ (.tail _ (.tail _ (md r hr))))).2.2, (N7 (r.dic w.params) (.tail _ (.tail _ (.tail _ (md r hr))))).2.1⟩
    have z742 := (N7 (742, tabObj ps) (.tail _ (.tail _ (.head _)))).2
    have zar := (N7 (M.ar, M.oar) (.head _)).2
    have F8 := Fr.but F7 kb8 (notin3 (Ne.symm (d0 r1 hr1).2) (Ne.symm (d0 r2 hr2).2) (Ne.symm z742.1)) (fun b hb => by
      refine memc hb ?_ fun hb => ?_
      · exact (d0 r1 hr1).1
      refine memc hb ?_ fun hb => ?_
      · exact (d0 r2 hr2).1
      · rw [List.mem_singleton.mp hb]; exact z742.2)
    obtain ⟨f8, hf8⟩ : ∃ f, f = linkF r1.x r2.x D E2 (List.filter (fun x => x != r2.x) r1.as) (List.filter (fun x => x != r1.x) r2.bs) nD nE := ⟨_, rfl⟩
    rw [← hf8] at O8 I8
    have fs8 : ∀ r, (f8 r).x = r.x ∧ (f8 r).dx = r.dx ∧ (f8 r).nm = r.nm := fun r => by rw [hf8]; exact linkF_same r
    obtain ⟨M8, hM8⟩ : ∃ M8, M8 = M1.upd f8 (cut M1.pairs r1.nm r2.nm) := ⟨_, rfl⟩
    rw [← hM8] at O8 I8
    have a1 : M8.a = M.a := by rw [hM8]; exact i1
    have a2 : M8.ar = M.ar := by rw [hM8]; exact i2
    have a3 : M8.d = M.d := by rw [hM8, ← hM1]; rfl
    have a4 : M8.al = M.al := by rw [hM8, ← hM1]; rfl
    have a5 : M8.lv = M.lv := by rw [hM8, ← hM1]; rfl
    have a6 : M8.oar = M.oar := by rw [hM8]; exact i5
    have a7 : M8.links = ls := by rw [hM8, ← hM1]; rfl
    have a8 : M8.roles = M.roles.map f8 := by rw [hM8, ← i3]; rfl
    have a9 : M8.pairs = cut M.pairs n1 n2 := by rw [hM8]; show cut M1.pairs r1.nm r2.nm = _; rw [i4, e1, e2]
    have h7L := F7.ns.lt
    obtain ⟨oD7, _, _, eL7, _⟩ := Ns.obj F7.ns
    have back7 : ∀ {hx : Heap} {mx : Str → Option Value} {lx : List (Addr × Obj)} (b : Addr), Fr g' L' hx mx → News g' L' hx lx → (∀ p ∈ ((M.ar, M.oar) :: (M.al, M1.lob) :: (742, tabObj ps) :: Rd), p ∈ lx) → hx.get? b = none → s.heap.get? b = none := fun b F N hs hb' => by
      cases e : s.heap.get? b with
      | none => rfl
      | some ob =>
        have hx' := F.keep _ _ (kG' b ob e (fun q => by
          rcases List.mem_cons.mp q with q | q
          · rw [q, (N (M.al, M1.lob) (hs _ (.tail _ (.head _)))).1] at hb'; cases hb'
          rcases List.mem_cons.mp q with q | q
          · rw [q, (N (M.ar, M.oar) (hs _ (.head _))).1] at hb'; cases hb'
          rcases List.mem_cons.mp q with q | q
          · rw [q, (N (742, tabObj ps) (hs _ (.tail _ (.tail _ (.head _))))).1] at hb'; cases hb'
          · obtain ⟨z, hz, ez⟩ := List.mem_map.mp q
            rw [← ez, (N z (hs _ (.tail _ (.tail _ (.tail _ hz))))).1] at hb'; cases hb'))
        rw [hb'] at hx'; cases hx'
    have inG : ∀ {b : Addr} {o : Obj}, g'.get? b = some o → @Ne Nat b L' := fun e q => by rw [show _ = _ from q, fr_none F7] at e; cases e
    have frD : ∀ {b : Addr} {hx : Heap} {mx : Str → Option Value}, Fr g' L' hx mx → hx.get? b = none → @Ne Nat b L' := fun F e => Fr.neOf F e
    have all8 : ∀ p ∈ M8.all w.params, ((∃ o, (p.1, o) ∈ M.all w.params) ∨ s.heap.get? p.1 = none) ∧ @Ne Nat p.1 L' := by
      have eqd : ∀ {b b' : Addr}, b' = b → (((∃ o, (b, o) ∈ M.all w.params) ∨ s.heap.get? b = none) ∧ @Ne Nat b L') → (((∃ o, (b', o) ∈ M.all w.params) ∨ s.heap.get? b' = none) ∧ @Ne Nat b' L') := fun e h => e ▸ h
      have dn : ∀ b, (b = D ∨ b = E2) → s.heap.get? b = none ∧ @Ne Nat b L' := fun b hb => by
        rcases hb with rfl | rfl
        · exact ⟨back7 _ F7 N7 (fun _ h => h) f1, frD F7 f1⟩
        · exact ⟨back7 _ F7 N7 (fun _ h => h) f2, frD F7 f2⟩
      have hFr : ∀ r ∈ M1.roles, (f8 r).rl = r.rl ∨ (f8 r).rl = D := fun r _ => by
        rw [hf8]; unfold linkF setAs setBs; split <;> split <;> first | exact .inl rfl | exact .inr rfl
      have hFu : ∀ r ∈ M1.roles, (f8 r).ul = r.ul ∨ (f8 r).ul = E2 := fun r _ => by
        rw [hf8]; unfold linkF setAs setBs; split <;> split <;> first | exact .inl rfl | exact .inr rfl
      have hr8 : ∀ q ∈ M8.roles, ∃ r ∈ M.roles, q = f8 r := fun q hq => by
        rw [a8] at hq
        obtain ⟨r, hr, rfl⟩ := List.mem_map.mp hq
        exact ⟨r, hr, rfl⟩
      refine MgrR.forall_all (eqd a1 ⟨.inl ⟨_, .head _⟩, inG ba⟩) (eqd a3 ⟨.inl ⟨_, .tail _ (.head _)⟩, inG bd⟩) (eqd a4 ⟨.inl ⟨_, .tail _ (.tail _ (.head _))⟩, (N7 (M.al, M1.lob) (.tail _ (.head _))).2.1⟩) (eqd a2 ⟨.inl ⟨_, .tail _ (.tail _ (.tail _ (.head _)))⟩, zar.1⟩) ?_ ?_ ?_ ?_ ?_
      · intro q hq
        obtain ⟨r, hr, rfl⟩ := hr8 q hq
        exact eqd (fs8 r).2.1 ⟨.inl ⟨_, M.mem_dic hr⟩, (d0 r (i3 ▸ hr)).2⟩
      · intro q hq
        obtain ⟨r, hr, rfl⟩ := hr8 q hq
        exact eqd (fs8 r).1 ⟨.inl ⟨_, M.mem_fix hr (.head _)⟩, inG (g1 r hr (r.x, _) (.head _))⟩
      · intro q hq
        obtain ⟨r, hr, rfl⟩ := hr8 q hq
        rcases hFr r (i3 ▸ hr) with e | e
        · exact eqd e ⟨.inl ⟨_, M.mem_fix hr (.tail _ (.head _))⟩, inG (g1 r hr (r.rl, _) (.tail _ (.head _)))⟩
        · exact ⟨.inr (dn _ (.inl e)).1, (dn _ (.inl e)).2⟩
      · intro q hq
        obtain ⟨r, hr, rfl⟩ := hr8 q hq
        rcases hFu r (i3 ▸ hr) with e | e
        · exact eqd e ⟨.inl ⟨_, M.mem_fix hr (.tail _ (.tail _ (.head _)))⟩, inG (g1 r hr (r.ul, _) (.tail _ (.tail _ (.head _))))⟩
        · exact ⟨.inr (dn _ (.inr e)).1, (dn _ (.inr e)).2⟩
      · intro l hl
        rw [a7] at hl
        exact ⟨.inl ⟨_, M.mem_link (hsubl l hl)⟩, inG (g2 l (hsubl l hl))⟩
    obtain ⟨oS, _, _, eS, _⟩ := Ns.obj F.ns
    have off8 : ∀ p ∈ M8.all w.params, @Ne Nat p.1 L := fun p hp => by
      rcases (all8 p hp).1 with ⟨o, h⟩ | h
      · exact hoff (p.1, o) h
      · exact fun e => by rw [show p.1 = L from e, eS] at h; cases h
    obtain ⟨R8, hR8⟩ : ∃ R8, R8 = (M8.all w.params).filter (fun p => (g'.get? p.1).isNone) := ⟨_, rfl⟩
    have in8 : ∀ p ∈ M8.all w.params, g'.get? p.1 = some p.2 ∨ p ∈ R8 := fun p hp => by
      cases e : g'.get? p.1 with
      | none => exact .inr (by rw [hR8]; exact List.mem_filter.mpr ⟨hp, by rw [e]; rfl⟩)
      | some o =>
        have x1 := F8.keep _ _ e
        rw [I8 p hp] at x1; cases x1; exact .inl rfl
    have N8 : News g' L' s8.heap ((M.ar, M.oar) :: (742, tabObj ps8) :: R8) := fun p hp => by
      refine memc hp ?_ fun hp => ?_
      · exact ⟨by have := I8.ar; rw [a2, a6] at this; exact this, zar⟩
      refine memc hp ?_ fun hp => ?_
      · exact ⟨e8, z742⟩
      · rw [hR8] at hp
        obtain ⟨p1, p2⟩ := List.mem_filter.mp hp
        exact ⟨I8 p p1, (all8 p p1).2, Option.isNone_iff_eq_none.mp p2⟩
    have sub8 : ∀ p ∈ R8, p ∈ M8.all w.params := fun p hp => by rw [hR8] at hp; exact (List.mem_filter.mp hp).1
    have tab8 := MgrR.off_tab O8 I8 e8
    clear F7 N7 I7 x1 x2 hR8 eL7 h7L back7 inG frD inM gR
    obtain ⟨hh8, gg8, dd8, tt8, os8⟩ := s8
    dsimp only at F8 N8 I8 e8 hG8 hos8 kb8
    k_steps
    refine Stop.mk ?_
    refine For_V ?_ (by intro _; rfl)
    have hD8 : M.oar.IsDictOf (strKind prog w) M8.kvs := a6 ▸ O8.dict
    have sys8 := O.sys
    k_steps
    rename Fr g' L' _ _ => F9
    rename News g' L' _ _ => N9
    have hL0 := fr_none F
    have F0 := F
    have N0 := N
    have n742 : @Ne Nat 742 L := (N _ (.tail _ (.tail _ (.head _)))).2.1
    obtain ⟨g2', oL, es0, ep0, eL, dL, X2, T2, F10, N10, kh2, gk, gk', nLL⟩ := ground_off X T FG' F9 N9
    obtain ⟨ep, hat⟩ := (Heap.dictOf_iff.mpr ⟨M.oar, (N9 (M.ar, M.oar) (.tail _ (.head _))).1, hD8⟩).dictAt
    have hatK : ∀ h' : Heap, h'.get? M.ar = some M.oar → h'.DictAt (strKind prog w) M.ar M8.kvs ep := fun h' e => by
      obtain ⟨o, es, e0, r⟩ := hat
      rw [(N9 (M.ar, M.oar) (.tail _ (.head _))).1] at e0
      cases e0
      exact ⟨_, es, e, r⟩
    have in2 : ∀ p ∈ M8.all w.params, g2'.get? p.1 = some p.2 ∨ p ∈ R8 := fun p hp => (in8 p hp).imp (gk _ _ (off8 p hp)) id
    have ba2 : g2'.get? M.a = some (instObj 929 M.d) := gk _ _ (hoff _ (.head _)) ba
    have bd2 : g2'.get? M.d = some (mgrDict w.params M.lv M.tl M.u1 M.u2 M.u3 M.u4 M.u5 M.al M.ar) := gk M.d _ (hoff (M.d, M.dob w.params) (.tail _ (.head _))) bd
    have hr1' : f8 r1 ∈ M8.roles := by rw [a8]; exact List.mem_map_of_mem (i3 ▸ hr1)
    have u1 := in2 _ (M8.mem_fix hr1' (.head _))
    have u2 := in2 _ (M8.mem_dic hr1')
    have hr2' : f8 r2 ∈ M8.roles := by rw [a8]; exact List.mem_map_of_mem (i3 ▸ hr2)
    have w1 := in2 _ (M8.mem_fix hr2' (.head _))
    have w2 := in2 _ (M8.mem_dic hr2')
    rw [(fs8 r1).1] at u1
    rw [(fs8 r2).1] at w1
    generalize f8 r1 = R1 at u1 u2 hr1'
    generalize f8 r2 = R2 at w1 w2 hr2'
    have N11 := newsSub (news' := (L, oL) :: (M.ar, M.oar) :: (742, tabObj ps8) :: R8) N10 fun p hp => by
      refine memc hp ?_ fun hp => ?_
      · exact .head _
      · exact .tail _ (.tail _ hp)
    refine Stop.mk ⟨_, M.ar, M8.kvs, ep, RowT g2' L' L "r" _ oL ((M.ar, M.oar) :: (742, tabObj ps8) :: R8) os8, rfl, ⟨_, (N9 _ (.head _)).1, rfl, rfl⟩, hat, rfl, fun I h' hI k => rt_start F10 N11 hG8 rfl rfl hI k, fun I i s h' tk J k => rt_stable J k, ?_, ?_, ?_⟩
    · rintro I i t ⟨ov, sl, i1, i2, i3, i4, F, N, hG, hos⟩
      exact hatK _ (N _ (.tail _ (.head _))).1
    · rintro I i k v t hv ⟨ov, sl, i1, i2, i3, i4, F, N, hG, hos⟩ ⟨oI, eI⟩
      clear F9 N9 F10 N10 N11 hat X' T' B' FG' ba bd F8 N8 hatK
      obtain ⟨q, hq, hqv⟩ : ∃ q ∈ M8.roles, v = .ref q.x := by
        unfold MgrR.kvs at hv
        rw [List.getElem?_map] at hv
        obtain ⟨q, hq, e⟩ := Option.map_eq_some_iff.mp hv
        exact ⟨q, List.mem_of_getElem? hq, by cases e; rfl⟩
      subst hqv
      have y1 := in2 _ (M8.mem_fix hq (.head _))
      have y2 := in2 _ (M8.mem_dic hq)
      obtain ⟨h9, g9, d9, tk9, os9⟩ := t
      dsimp only at F N eI hG hos
      have N2 : News g2' L' h9 ((L, { oL with slots := sl }) :: (I, oI) :: (M.ar, M.oar) :: (742, tabObj ps8) :: R8) := fun p hp => by
        refine memc hp ?_ fun hp => ?_
        · exact N _ (.head _)
        refine memc hp ?_ fun hp => ?_
        · exact ⟨eI, i1, i2⟩
        · exact N _ (.tail _ hp)
      clear N
      have hRn : ∀ p ∈ ((I, oI) :: (M.ar, M.oar) :: (742, tabObj ps8) :: R8), @Ne Nat p.1 L := fun p hp => by
        refine memc hp ?_ fun hp => ?_
        · exact i3
        refine memc hp ?_ fun hp => ?_
        · exact hoff (M.ar, M.oar) (.tail _ (.tail _ (.tail _ (.head _))))
        refine memc hp ?_ fun hp => ?_
        · exact n742
        · exact off8 p (sub8 p hp)
      k_steps
      · refine Stop.mk ?_
        rename Fr g2' L' _ _ => Fc
        rename News g2' L' _ _ => Nc
        refine mfn_in X T kh2 hL0 Fc Nc hRn ⟨es0, ep0, dL⟩ hf hke rfl rfl rfl rfl (by k_room) (by k_units) ba2 bd2 (hoff _ (.head _)) (hoff (M.d, M.dob w.params) (.tail _ (.head _))) ?_
        intro hc tkc slc Fd Nd
        clear Fc Nc
        k_steps
        · refine Stop.mk ?_
          rename Fr g2' L' _ _ => Fc
          rename News g2' L' _ _ => Nc
          refine mfn_in X T kh2 hL0 Fc Nc hRn ⟨es0, ep0, dL⟩ hf hke rfl rfl rfl rfl (by k_room) (by k_units) ba2 bd2 (hoff _ (.head _)) (hoff (M.d, M.dob w.params) (.tail _ (.head _))) ?_
          intro hc tkc slc Fd Nd
          clear Fc Nc
          k_steps
          rename Fr g2' L' _ _ => Fc
          rename News g2' L' _ _ => Nc
          exact rt_end i1 i2 i3 i4 eI Fc Nc hG hos
        · rename Fr g2' L' _ _ => Fc
          rename News g2' L' _ _ => Nc
          exact rt_end i1 i2 i3 i4 eI Fc Nc hG hos
      · refine Stop.mk ?_
        rename Fr g2' L' _ _ => Fc
        rename News g2' L' _ _ => Nc
        refine mfn_in X T kh2 hL0 Fc Nc hRn ⟨es0, ep0, dL⟩ hf hke rfl rfl rfl rfl (by k_room) (by k_units) ba2 bd2 (hoff _ (.head _)) (hoff (M.d, M.dob w.params) (.tail _ (.head _))) ?_
        intro hc tkc slc Fd Nd
        clear Fc Nc
        k_steps
        rename Fr g2' L' _ _ => Fc
        rename News g2' L' _ _ => Nc
        exact rt_end i1 i2 i3 i4 eI Fc Nc hG hos
      · rename Fr g2' L' _ _ => Fc
        rename News g2' L' _ _ => Nc
        exact rt_end i1 i2 i3 i4 eI Fc Nc hG hos
    · rintro I t ⟨ov, sl, i1, i2, i3, i4, F, N, hG, hos⟩
      clear F9 N9 F10 N10 N11 hat X' T' B' FG' F8 N8 hatK
      obtain ⟨h9, g9, d9, tk9, os9⟩ := t
      dsimp only at F N hG hos
      k_steps
      have oLS : oL = oS := by
        have := kG' L oS eS (fun q => by
          obtain ⟨z, hz, ez⟩ := List.mem_map.mp q
          exact (N0 z hz).2.1 ez)
        rw [eL] at this; exact Option.some.inj this
      refine ret M8 ⟨h9, g9, d9, tk9, os9⟩ ps8 O8 (fun p hp => ?_) a9 ?_ ⟨a1, a3, a4, a2, a5⟩ ?_ (fun l hl => hsubl l (a7 ▸ hl)) (by rw [a7]; exact hlen) ?_ ?_ (fun p hp => (all8 p hp).1) (N _ (.tail _ (.tail _ (.head _)))).1 htr8 hG (hos.trans hos8)
      · rcases in2 p hp with e | e
        · exact F.keep _ _ e
        · exact (N p (.tail _ (.tail _ (.tail _ e)))).1
      · show M8.links.map _ = _
        rw [a7]; exact hcut
      · show M8.roles.map _ = M.roles.map _
        rw [a8, List.map_map]; exact List.map_congr_left fun r _ => (fs8 r).2.2
      · refine ⟨ns_slots F0.ns (oLS ▸ eS) (N _ (.head _)).1, fun b o e => F.keep b o (kh2 b o e), F0.above⟩
      · intro b o hb e
        refine F.keep b o (gk b o (fun q => hb (q ▸ .head _)) (kG' b o e (fun q => ?_)))
        rcases List.mem_cons.mp q with q | q
        · exact hb (q ▸ .tail _ (.tail _ (.tail _ (.head _))))
        rcases List.mem_cons.mp q with q | q
        · exact hb (q ▸ .tail _ (.tail _ (.tail _ (.tail _ (.head _)))))
        rcases List.mem_cons.mp q with q | q
        · exact hb (q ▸ .tail _ (.head _))
        · obtain ⟨z, hz, ez⟩ := List.mem_map.mp q
          rw [← hRd] at hz
          obtain ⟨r, hr, rfl⟩ := List.mem_map.mp hz
          exact hb (ez ▸ .tail _ (.tail _ (.tail _ (.tail _ (.tail _ (List.mem_map.mpr ⟨r, hr, rfl⟩))))))
  · rw [decide_eq_true hin]
    k_steps
    rename Fr g' L' _ _ => F9
    rename News g' L' _ _ => N9
    have keepAll : ∀ {hx : Heap} {mx : Str → Option Value} {lx : List (Addr × Obj)}, Fr g' L' hx mx → News g' L' hx lx → (∀ p ∈ ((M.al, listOf (M.links.map fun l => Value.ref l.t).toArray M.nal) :: (M.ar, M.oar) :: (742, tabObj ps) :: Rd), p ∈ lx) → Keep s.heap hx := fun F N' hs b o e => by
      by_cases hb : b ∈ ((M.al, M.lob) :: (M.ar, M.oar) :: (742, tabObj ps) :: Rd).map (·.1)
      · obtain ⟨z, hz, rfl⟩ := List.mem_map.mp hb
        have z1 := (N z hz).1
        rw [e] at z1; cases z1
        exact (N' z (hs z hz)).1
      · exact F.keep b o (kG' b o e hb)
    have kA := keepAll F9 N9 fun p hp => .tail _ (.tail _ hp)
    have hc : cut M.pairs n1 n2 = M.pairs := List.filter_eq_self.mpr fun q hq => by
      rw [bne_iff_ne]; exact fun e => hin (e ▸ hq)
    show Q .none _
    refine ret M ⟨_, _, _, _, _⟩ ps O (fun p hp => kA _ _ (I p hp)) hc.symm (hsync.trans hc.symm) ⟨rfl, rfl, rfl, rfl, rfl⟩ rfl (fun l hl => hl) (Nat.le_refl _) (F.keeps kA) kA.but (fun p hp => .inl ⟨p.2, hp⟩) (kA _ _ (N _ (.tail _ (.tail _ (.head _)))).1) htr hG rfl
end
end Mine
section
open PySem PySem.W PyProof.Rows PySem.Calls
namespace Mine
section
variable {prog : Program} {w : World} {A : Around} {E : Value → Shared → Prop} {s : Shared}
theorem item_six {value slice : PySem.Expr} {D : Addr} {tk : Nat → Tok} {e : Int} {t : Tok} {Q : Value → Shared → Prop} (h : Q (.str (nm6 e.toNat) (tk e.toNat)) s) (hD : s.heap.get? D = some (listOf (its6 tk).toArray 0) := by exact at_1) (h0 : 0 ≤ e := by exact Int.fmod_nonneg_of_pos _ (by decide)) (h1 : e < 6 := by exact Int.fmod_lt_of_pos _ (by decide))
    (hs : subscripted slice false (.ref D) (.int e t) = operate [.ref D, .int e t] (getItem (.ref D) (.int e t)) := by with_unfolding_all rfl) :
    wpAny (model prog w) A (subscriptTail value slice (.ref D) (.int e t)) Q E s := by
  have hl : s.heap.IsList D (its6 tk).toArray := ⟨_, hD, rfl, _, rfl⟩
  refine tail_any hl.typeIs slot_list_getitem.lookup (wpAny_getItem_list hl h0 (by omega) ?_ h) hs
  unfold its6
  rw [List.getElem?_toArray, List.getElem?_map, List.getElem?_range (by omega)]; rfl
end
noncomputable def LawIs (w : World) (qual : Str) (scope : Scope) (body : List Stmt) : Prop :=
  ∃ oc od nm params dV kV doc pm an cdv ct osl, (hd.heap_1 w.params).lookup 962 = some ⟨oc, od, .func (fnOf nm qual params body scope dV kV doc pm an cdv ct), osl⟩
theorem LawIs.eq {w : World} {q q' n : Str} {sc sc' : Scope} {b b' : List Stmt} {oc dV kV doc pm cdv ct : Value} {od an : Option Addr} {osl : Array (Option Value)} {params : Arguments} (H : LawIs w q sc b)
    (e : (hd.heap_1 w.params).lookup 962 = some ⟨oc, od, .func (fnOf n q' params b' sc' dV kV doc pm an cdv ct), osl⟩) : q' = q ∧ sc' = sc ∧ b' = b := by
  obtain ⟨_, _, _, _, _, _, _, _, _, _, _, _, e'⟩ := H
  rw [e] at e'
  injection e' with e'
  injection e' with _ _ e' _
  injection e' with e'
  unfold fnOf at e'
  injection e' with _ e2 _ e4 e5
  injection e4 with e4
  exact ⟨e2, e5, e4⟩
noncomputable def loopOf (i : Nat) (b : List Stmt) : List Stmt := match b[i]? with | some (.For _ _ b _ _) => b | _ => []
noncomputable def lawM (sc lk k de ki pi ot to dp ch lo hi : Option Value) : Str → Option Value := fun z =>
  if z = ("script" : Str) then sc else if z = ("links" : Str) then lk else if z = ("k" : Str) then k else if z = ("deed" : Str) then de else if z = ("kind" : Str) then ki else if z = ("pick" : Str) then pi else
  if z = ("other" : Str) then ot else if z = ("told" : Str) then to else if z = ("depth" : Str) then dp else if z = ("chain" : Str) then ch else if z = ("low" : Str) then lo else if z = ("high" : Str) then hi else none
noncomputable def lawN : List Str := ["script", "links", "k", "deed", "kind", "pick", "other", "told", "depth", "chain", "low", "high"]
theorem lawM_of {m : Str → Option Value} (hm : ∀ z, z ∉ lawN → m z = none) : m = lawM (m "script") (m "links") (m "k") (m "deed") (m "kind") (m "pick") (m "other") (m "told") (m "depth") (m "chain") (m "low") (m "high") := by
  funext z
  unfold lawM
  by_cases h : z ∈ lawN
  · unfold lawN at h
    simp only [List.mem_cons, List.not_mem_nil, or_false] at h
    rcases h with rfl | rfl | rfl | rfl | rfl | rfl | rfl | rfl | rfl | rfl | rfl | rfl <;> rfl
  · rw [hm z h]
    unfold lawN at h
    simp only [List.mem_cons, List.not_mem_nil, or_false, not_or] at h
    obtain ⟨h1, h2, h3, h4, h5, h6, h7, h8, h9, h10, h11, h12⟩ := h
    rw [if_neg h1, if_neg h2, if_neg h3, if_neg h4, if_neg h5, if_neg h6, if_neg h7, if_neg h8, if_neg h9, if_neg h10, if_neg h11, if_neg h12]
theorem lawM_off {sc lk k de ki pi ot to dp ch lo hi : Option Value} {z : Str} (h : z ∉ lawN) : lawM sc lk k de ki pi ot to dp ch lo hi z = none := by
  unfold lawM
  unfold lawN at h
  simp only [List.mem_cons, List.not_mem_nil, or_false, not_or] at h
  obtain ⟨h1, h2, h3, h4, h5, h6, h7, h8, h9, h10, h11, h12⟩ := h
  rw [if_neg h1, if_neg h2, if_neg h3, if_neg h4, if_neg h5, if_neg h6, if_neg h7, if_neg h8, if_neg h9, if_neg h10, if_neg h11, if_neg h12]
theorem off_set {x : Str} {v : Option Value} {m : Str → Option Value} (hx : x ∈ lawN) (hm : ∀ z, z ∉ lawN → m z = none) : ∀ z, z ∉ lawN → (fun y => if y = x then v else m y) z = none := fun z hz => by
  show (if z = x then v else m z) = none
  rw [if_neg (fun e : z = x => hz (e ▸ hx))]; exact hm z hz
theorem Fr.law {g h : Heap} {L : Addr} {m : Str → Option Value} (F : Fr g L h m) (hm : ∀ z, z ∉ lawN → m z = none) : Fr g L h (lawM (m "script") (m "links") (m "k") (m "deed") (m "kind") (m "pick") (m "other") (m "told") (m "depth") (m "chain") (m "low") (m "high")) := lawM_of hm ▸ F
section
variable {prog : Program} {w : World} {p : Program} {loose : List Str} {mean : ExcName → Option Value} {mg mb : Str → Option Value} {A : Around} {M : Model} {s : Shared} {g h : Heap} {L : Addr} {m : Str → Option Value} {dd uu : Nat} {E : Value → Shared → Prop} {env : Env}
theorem wp_execs_app {Γ : Ctx} {r : List Stmt} {Q : Flow → Pos → Shared → Prop} {E : Value → Pos → Shared → Prop} : ∀ {l : List Stmt} {p : Pos} {s : Shared}, Sem.wp M Γ (execs l env) (fun f p' s' => match f with | .next => Sem.wp M Γ (execs r env) Q E p' s' | f => Q f p' s') E p s → Sem.wp M Γ (execs (l ++ r) env) Q E p s
  | [], p, s, h => by
    rw [execs_nil] at h
    exact h
  | st :: l, p, s, h => by
    rw [List.cons_append, execs_cons]
    rw [execs_cons] at h
    rw [PySem.Sem.wp_bind'] at h ⊢
    refine Sem.wp_mono M Γ _ (fun f p' s' hf => ?_) (fun _ _ _ x => x) _ _ h
    cases f
    · exact wp_execs_app hf
    all_goals exact hf
theorem execs_app {r l : List Stmt} {Q : Flow → Shared → Prop} {s : Shared} (h : wpAny M A (execs l env) (fun f s' => match f with | .next => wpAny M A (execs r env) Q E s' | f => Q f s') E s) : wpAny M A (execs (l ++ r) env) Q E s := by
  intro Γ q hΓ
  refine wp_execs_app (Sem.wp_mono M Γ _ (fun f p' s' hf => ?_) (fun _ _ _ x => x) _ _ (h Γ q hΓ))
  cases f
  · exact hf Γ p' hΓ
  all_goals exact hf
end
end Mine
namespace Mine
noncomputable def elif1 : Option Stmt → Stmt | some (.If _ _ [e] _) => e | _ => .Pass default
noncomputable def elif2 (o : Option Stmt) : Stmt := elif1 (some (elif1 o))
end Mine
namespace Mine
theorem nm6_six (e : Int) : nm6 (e.fmod 6).toNat ∈ six := by
  have h0 : 0 ≤ e.fmod 6 := Int.fmod_nonneg_of_pos _ (by decide)
  have h1 : e.fmod 6 < 6 := Int.fmod_lt_of_pos _ (by decide)
  have : (e.fmod 6).toNat < 6 := by omega
  generalize (e.fmod 6).toNat = n at this
  have all : ∀ n < 6, nm6 n ∈ six := by decide +kernel
  exact all n this
end Mine
end
section
open PySem PySem.W PyProof.Rows PySem.Calls PySem.SeqAt
namespace Mine
noncomputable def pairL (p : Str × Str) : PyData := .list [.str p.1, .str p.2]
theorem pairL_eqv (p q : Str × Str) : PyData.eqv (pairL p) (pairL q) = decide (p = q) := by
  have : PyData.eqv (pairL p) (pairL q) = (p.1 == q.1 && p.2 == q.2) := by simp [pairL, PyData.eqv, PyData.eqvAll]
  rw [this, Bool.eq_iff_iff, decide_eq_true_eq, Prod.ext_iff]
  simp
noncomputable def okPr (p : Str × Str) : Prop := PyData.strOk p.1 = true ∧ PyData.strOk p.2 = true
theorem pr_reads {h : Heap} {l : PairR} (e : h.get? l.x = some l.ob) : Reads h (.ref l.x) (pairL l.pr) [l.x] := .list e rfl rfl (.cons (.str _ _) (.cons (.str _ _) .nil))
theorem prs_reads {h : Heap} : ∀ (ls : List PairR), (∀ l ∈ ls, h.get? l.x = some l.ob) → ∃ as, ReadsAll h (ls.map fun l => Value.ref l.x) (ls.map fun l => pairL l.pr) as
  | [], _ => ⟨_, .nil⟩
  | l :: ls, hl => by
    obtain ⟨as, r⟩ := prs_reads ls fun q hq => hl q (.tail _ hq)
    exact ⟨_, .cons (pr_reads (hl l (.head _))) r⟩
theorem pairL_lay {p : Str × Str} (ha : okPr p) : (pairL p).canLay0 = true := by simp [pairL, PyData.canLay0, PyData.canLayAll0, ha.1, ha.2]
theorem prs_lay : ∀ (ls : List PairR), (∀ l ∈ ls, okPr l.pr) → PyData.canLayAll0 (ls.map fun l => pairL l.pr) = true
  | [], _ => rfl
  | l :: ls, hk => by
    have := prs_lay ls fun q hq => hk q (.tail _ hq)
    simp only [List.map_cons, PyData.canLayAll0, this, Bool.and_true]
    exact pairL_lay (hk l (.head _))
section
variable {prog : Program} {w : World} {A : Around} {E : Value → Shared → Prop} {s : Shared} {Q : Value → Shared → Prop} {ls : List PairR} {la : Addr} {nla : Nat} {x y : PairR}
theorem pair_notIn (hal : s.heap.get? la = some (listOf (ls.map fun l => Value.ref l.x).toArray nla)) (hl : ∀ l ∈ ls, s.heap.get? l.x = some l.ob) (hT : s.heap.get? x.x = some x.ob) (hk : ∀ l ∈ ls, okPr l.pr) (hx : okPr x.pr)
    (hu : A.units + 50 < cLine) (h : Q (.bool (decide (x.pr ∉ ls.map PairR.pr))) s) : wpAny (model prog w) A (compareOp .NotIn (.ref x.x) (.ref la)) Q E s := by
  obtain ⟨as, ra⟩ := prs_reads ls hl
  refine notIn_list_reads (xs := ls.map fun l => pairL l.pr) (d := pairL x.pr) (.list hal rfl rfl (by rw [List.toList_toArray]; exact ra)) (pr_reads hT) (prs_lay ls hk) (pairL_lay hx) ?_ ?_
  · exact ar_u1 hu (Nat.min_le_right _ _) (by simp [pairL, PyData.depth, PyData.depthAll])
  · have : (!(ls.map fun l => pairL l.pr).any fun y => PyData.eqv y (pairL x.pr)) = decide (x.pr ∉ ls.map PairR.pr) := by
      rw [Bool.eq_iff_iff, decide_eq_true_eq, List.any_map, Bool.not_eq_true', List.any_eq_false]
      constructor
      · intro h1 h2
        obtain ⟨l, hl, e⟩ := List.mem_map.mp h2
        refine h1 l hl ?_
        show PyData.eqv (pairL l.pr) (pairL x.pr) = true
        rw [pairL_eqv, decide_eq_true_eq]; exact e
      · intro h1 l hl h2
        refine h1 (List.mem_map.mpr ⟨l, hl, ?_⟩)
        have h2' : PyData.eqv (pairL l.pr) (pairL x.pr) = true := h2
        rw [pairL_eqv, decide_eq_true_eq] at h2'; exact h2'
    rw [this]; exact h
theorem pair_ne (hx : s.heap.get? x.x = some x.ob) (hy : s.heap.get? y.x = some y.ob) (kx : okPr x.pr) (ky : okPr y.pr) (hu : A.units + 50 < cLine) (h : Q (.bool (decide (x.pr ≠ y.pr))) s) :
    wpAny (model prog w) A (compareOp .NotEq (.ref x.x) (.ref y.x)) Q E s := by
  refine SeqAt.compareNe_reads (pr_reads hx) (pr_reads hy) (pairL_lay kx) (pairL_lay ky) ?_ ?_
  · exact ar_u hu (Nat.min_le_left _ _) (by simp [pairL, PyData.depth, PyData.depthAll])
  · rw [pairL_eqv, ← decide_not]; exact h
theorem links_ne_nil {D : Addr} {k : Nat} (hal : s.heap.get? la = some (listOf (ls.map fun l => Value.ref l.x).toArray nla)) (hl : ∀ l ∈ ls, s.heap.get? l.x = some l.ob) (hk : ∀ l ∈ ls, okPr l.pr) (hD : s.heap.get? D = some (listOf #[] k))
    (hu : A.units + 50 < cLine) (h : Q (.bool (decide (ls ≠ []))) s) : wpAny (model prog w) A (compareOp .NotEq (.ref la) (.ref D)) Q E s := by
  obtain ⟨as, ra⟩ := prs_reads ls hl
  refine SeqAt.compareNe_reads (da := .list (ls.map fun l => pairL l.pr)) (db := .list []) (.list hal rfl rfl (by rw [List.toList_toArray]; exact ra)) (.list hD rfl rfl .nil) (by rw [PyData.canLay0]; exact prs_lay ls hk) rfl ?_ ?_
  · exact ar_u hu (Nat.min_le_right _ _) (by simp [PyData.depth, PyData.depthAll])
  · have : (!PyData.eqv (.list (ls.map fun l => pairL l.pr)) (.list [])) = decide (ls ≠ []) := by
      cases ls with
      | nil => rfl
      | cons l r => simp [PyData.eqv, PyData.eqvAll]
    rw [this]; exact h
theorem item_prs {value slice : PySem.Expr} {e : Int} {t : Tok} (hal : s.heap.get? la = some (listOf (ls.map fun l => Value.ref l.x).toArray nla)) (h0 : 0 ≤ e) (h1 : e < ls.length) (hlen : ls.length ≤ 1000)
    (h : ∀ l ∈ ls, Q (.ref l.x) s)
    (hs : subscripted slice false (.ref la) (.int e t) = operate [.ref la, .int e t] (getItem (.ref la) (.int e t)) := by with_unfolding_all rfl) :
    wpAny (model prog w) A (subscriptTail value slice (.ref la) (.int e t)) Q E s := by
  have hl : s.heap.IsList la (ls.map fun l => Value.ref l.x).toArray := ⟨_, hal, rfl, _, rfl⟩
  have hlt : e.toNat < ls.length := by omega
  refine tail_any hl.typeIs slot_list_getitem.lookup (wpAny_getItem_list hl h0 (by omega) ?_ (h ls[e.toNat] (List.getElem_mem hlt))) hs
  rw [List.getElem?_toArray, List.getElem?_map, List.getElem?_eq_getElem hlt]; rfl
theorem len_prs {Q : Value → Shared → Prop} (hal : s.heap.get? la = some (listOf (ls.map fun l => Value.ref l.x).toArray nla)) (hlen : ls.length ≤ 1000)
    (h : ∀ t, Q (.int (ls.length : Int) t) { s with toks := s.toks + 1 + 1 }) : wpAny (model prog w) A (call (.builtin "len") [.ref la]) Q E s := by
  have hl : s.heap.IsList la (ls.map fun l => Value.ref l.x).toArray := ⟨_, hal, rfl, _, rfl⟩
  have e : (ls.map fun l => Value.ref l.x).toArray.size = ls.length := by simp
  refine call_len_list hl (by rw [e]; omega) ?_
  rw [e]; exact h _
end
end Mine
namespace Mine
section
variable {prog : Program} {w : World} {A : Around} {E : Value → Shared → Prop} {s : Shared} {Q : Value → Shared → Prop}
noncomputable def boolsV (bs : List Bool) : List Value := bs.map Value.bool
theorem bools_reads {h : Heap} : ∀ (bs : List Bool), ReadsAll h (boolsV bs) (bs.map PyData.bool) []
  | [] => .nil
  | b :: bs => .cons (as := []) (.bool b) (bools_reads bs)
theorem bools_lay : ∀ (bs : List Bool), PyData.canLayAll0 (bs.map PyData.bool) = true
  | [] => rfl
  | b :: bs => by simp only [List.map_cons, PyData.canLayAll0, PyData.canLay0, bools_lay bs, Bool.and_true]
theorem bools_eqv : ∀ (bs : List Bool), PyData.eqvAll (bs.map PyData.bool) (bs.map PyData.bool) = true
  | [] => rfl
  | b :: bs => by simp [PyData.eqvAll, PyData.eqv, bools_eqv bs]
theorem bools_depth : ∀ (bs : List Bool), PyData.depthAll (bs.map PyData.bool) = 0
  | [] => rfl
  | b :: bs => by simp [PyData.depthAll, PyData.depth, bools_depth bs]
theorem bools_ne {D D' : Addr} {bs : List Bool} (hD : s.heap.get? D = some (LCg.lst (boolsV bs))) (hD' : s.heap.get? D' = some (LCg.lst (boolsV bs))) (hu : A.units + 50 < cLine) (h : Q (.bool false) s) :
    wpAny (model prog w) A (compareOp .NotEq (.ref D) (.ref D')) Q E s := by
  refine SeqAt.compareNe_reads (da := .list (bs.map PyData.bool)) (db := .list (bs.map PyData.bool)) (.list hD rfl rfl (by rw [List.toList_toArray]; exact bools_reads bs)) (.list hD' rfl rfl (by rw [List.toList_toArray]; exact bools_reads bs)) (by rw [PyData.canLay0]; exact bools_lay bs) (by rw [PyData.canLay0]; exact bools_lay bs) ?_ ?_
  · exact ar_u hu (Nat.min_le_left _ _) (Nat.le_trans (by simp [PyData.depth, bools_depth] : (PyData.list (bs.map PyData.bool)).depth ≤ 1) (by decide))
  · have : (!PyData.eqv (.list (bs.map PyData.bool)) (.list (bs.map PyData.bool))) = false := by simp [PyData.eqv, bools_eqv]
    rw [this]; exact h
end
end Mine
end
section
open PySem PySem.W PyProof.Rows PySem.Calls
namespace Mine
section
variable {prog : Program} {w : World} {h₀ h h' : Heap} {L la : Addr} {nla : Nat} {ls : List PairR} {M M' : MgrR} {t1 t2 t1' t2' : Array Value} {R : List (Addr × Obj)} {m : Str → Option Value} {S : List Addr}
noncomputable def lsOb (ls : List PairR) (n : Nat) : Obj := listOf (ls.map fun l => Value.ref l.x).toArray n
structure LawD (prog : Program) (w : World) (h₀ : Heap) (L la : Addr) (nla : Nat) (ls : List PairR) (M : MgrR) (t1 t2 : Array Value) (R : List (Addr × Obj)) (h : Heap) : Prop where
  N : News h₀ L h ((la, lsOb ls nla) :: (742, tabObj t1) :: (906, tabObj t2) :: (R ++ M.all w.params))
  O : M.Ok prog w
  dis : ∀ q ∈ (la, lsOb ls nla) :: (742, tabObj t1) :: (906, tabObj t2) :: R, ∀ p ∈ M.all w.params, @Ne Nat q.1 p.1
  Rla : ∀ q ∈ R, @Ne Nat q.1 la ∧ @Ne Nat q.1 742 ∧ @Ne Nat q.1 906
  hls : ∀ l ∈ ls, (l.x, l.ob) ∈ R
  pairs : M.pairs = ls.map PairR.pr
  sync : M.lps = M.pairs
  names : ∀ n ∈ M.names, n ∈ six
  six : ∀ l ∈ ls, l.n1 ∈ six ∧ l.n2 ∈ six
  tr1 : TriplesOk t1.toList
  tr2 : TriplesOk t2.toList
theorem six_ok : ∀ n ∈ six, PyData.strOk n = true := by decide +kernel
theorem LawD.In (D : LawD prog w h₀ L la nla ls M t1 t2 R h) : M.In w.params h := fun p hp => (D.N p (.tail _ (.tail _ (.tail _ (List.mem_append_right _ hp))))).1
theorem LawD.roles (D : LawD prog w h₀ L la nla ls M t1 t2 R h) : M.roles.length ≤ 6 := by
  have := nodup_len' M.names Mine.six D.O.names D.names
  unfold MgrR.names at this
  rw [List.length_map] at this; exact this
theorem LawD.okl (D : LawD prog w h₀ L la nla ls M t1 t2 R h) : ∀ l ∈ ls, okPr l.pr := fun l hl => ⟨six_ok _ (D.six l hl).1, six_ok _ (D.six l hl).2⟩
theorem LawD.links (D : LawD prog w h₀ L la nla ls M t1 t2 R h) : M.links.length = ls.length := by
  have := congrArg List.length (D.sync.trans D.pairs)
  unfold MgrR.lps at this
  rwa [List.length_map, List.length_map] at this
theorem LawD.lok (D : LawD prog w h₀ L la nla ls M t1 t2 R h) : ∀ l ∈ M.links, PyData.strOk l.n1 = true ∧ PyData.strOk l.n2 = true := fun l hl => by
  have : (l.n1, l.n2) ∈ M.lps := List.mem_map_of_mem (f := fun l : LinkR => (l.n1, l.n2)) hl
  rw [D.sync, D.pairs] at this
  obtain ⟨q, hq, e⟩ := List.mem_map.mp this
  have := D.okl q hq
  rw [e] at this; exact this
theorem MgrR.dic_all {P : Params} : ∀ q ∈ M.roles.map (RoleR.dic P), q ∈ M.all P := fun q hq => .tail _ (.tail _ (.tail _ (.tail _ (List.mem_append_left _ hq))))
theorem MgrR.muts_all {P : Params} : ∀ b ∈ M.muts, ∃ p ∈ M.all P, p.1 = b := fun b hb => by
  refine memc hb ?_ fun hb => ?_
  · exact ⟨(M.d, M.dob P), .tail _ (.head _), rfl⟩
  refine memc hb ?_ fun hb => ?_
  · exact ⟨(M.al, M.lob), .tail _ (.tail _ (.head _)), rfl⟩
  refine memc hb ?_ fun hb => ?_
  · exact ⟨(M.ar, M.oar), .tail _ (.tail _ (.tail _ (.head _))), rfl⟩
  · obtain ⟨r, hr, rfl⟩ := List.mem_map.mp hb
    exact ⟨r.dic P, M.mem_dic hr, rfl⟩
theorem LawD.fresh {D5 : Addr} {n5 : Nat} {ls' : List PairR} {h5 : Heap} (N : News h₀ L h ((la, lsOb ls nla) :: (742, tabObj t1) :: (906, tabObj t2) :: (R ++ M.all w.params)))
    (dis : ∀ q ∈ (la, lsOb ls nla) :: (742, tabObj t1) :: (906, tabObj t2) :: R, ∀ p ∈ M.all w.params, @Ne Nat q.1 p.1) (O : M.Ok prog w) (F : Fr h₀ L h m)
    (Rla : ∀ q ∈ R, @Ne Nat q.1 742 ∧ @Ne Nat q.1 906) (hls : ∀ l ∈ ls', (l.x, l.ob) ∈ R) (pairs : M.pairs = ls'.map PairR.pr) (sync : M.lps = M.pairs) (names : ∀ n ∈ M.names, n ∈ Mine.six) (six : ∀ l ∈ ls', l.n1 ∈ Mine.six ∧ l.n2 ∈ Mine.six) (tr1 : TriplesOk t1.toList) (tr2 : TriplesOk t2.toList)
    (hD : h.get? D5 = none) (eD : h5.get? D5 = some (lsOb ls' n5)) (kb : KeepBut [L] h h5) : LawD prog w h₀ L D5 n5 ls' M t1 t2 R h5 := by
  have ne : ∀ {b : Addr} {o : Obj}, h.get? b = some o → @Ne Nat b D5 := fun e q => by rw [show _ = _ from q, hD] at e; cases e
  refine ⟨fun q hq => ?_, O, fun q hq p hp => ?_, fun q hq => ⟨ne (N q (.tail _ (.tail _ (.tail _ (List.mem_append_left _ hq))))).1, Rla q hq⟩, hls, pairs, sync, names, six, tr1, tr2⟩
  · refine memc hq ?_ fun hq => ?_
    · exact ⟨eD, Fr.neOf F hD, none_of_keep F.keep hD⟩
    · exact ⟨kb _ _ (notin1 (N q (.tail _ hq)).2.1) (N q (.tail _ hq)).1, (N q (.tail _ hq)).2⟩
  · refine memc hq ?_ fun hq => ?_
    · exact (ne (N p (.tail _ (.tail _ (.tail _ (List.mem_append_right _ hp))))).1).symm
    · exact dis q (.tail _ hq) p hp
theorem cut_pr (ls : List PairR) (x : PairR) : cut (ls.map PairR.pr) x.n1 x.n2 = (ls.filter fun l => decide (l.pr ≠ x.pr)).map PairR.pr := by
  unfold cut
  rw [List.filter_map]
  congr 1
  refine List.filter_congr fun l _ => ?_
  show (l.pr != (x.n1, x.n2)) = decide (l.pr ≠ x.pr)
  rw [Bool.eq_iff_iff, decide_eq_true_eq, bne_iff_ne]; exact Iff.rfl
theorem LawD.step (D : LawD prog w h₀ L la nla ls M t1 t2 R h) (F : Fr h₀ L h m) (kb : KeepBut S h h') (hS : ∀ b ∈ S, b = L ∨ b = 742 ∨ b = 906 ∨ ∃ p ∈ M.all w.params, p.1 = b) (I' : M'.In w.params h')
    (new : ∀ p ∈ M'.all w.params, (∃ o, (p.1, o) ∈ M.all w.params) ∨ h.get? p.1 = none) (e1 : h'.get? 742 = some (tabObj t1')) (e2 : h'.get? 906 = some (tabObj t2')) :
    News h₀ L h' ((la, lsOb ls nla) :: (742, tabObj t1') :: (906, tabObj t2') :: (R ++ M'.all w.params)) ∧ (∀ q ∈ (la, lsOb ls nla) :: (742, tabObj t1') :: (906, tabObj t2') :: R, ∀ p ∈ M'.all w.params, @Ne Nat q.1 p.1) := by
  have n1 := (D.N _ (.tail _ (.head _))).2
  have n2 := (D.N _ (.tail _ (.tail _ (.head _)))).2
  have la7 : @Ne Nat la 742 := ne_of_obj (D.N _ (.head _)).1 (D.N _ (.tail _ (.head _))).1 (by simp [lsOb])
  have la9 : @Ne Nat la 906 := ne_of_obj (D.N _ (.head _)).1 (D.N _ (.tail _ (.tail _ (.head _)))).1 (by simp [lsOb])
  have off : ∀ q ∈ (la, lsOb ls nla) :: (742, tabObj t1) :: (906, tabObj t2) :: R, q.1 ≠ 742 → q.1 ≠ 906 → q ∈ (la, lsOb ls nla) :: (742, tabObj t1) :: (906, tabObj t2) :: (R ++ M.all w.params) → q.1 ∉ S := fun q hq q7 q9 hN hs => by
    rcases hS _ hs with e | e | e | ⟨p, hp, e⟩
    · exact (D.N q hN).2.1 e
    · exact q7 e
    · exact q9 e
    · exact D.dis q hq p hp e.symm
  have old : ∀ q ∈ R, q ∈ (la, lsOb ls nla) :: (742, tabObj t1) :: (906, tabObj t2) :: R := fun q hq => .tail _ (.tail _ (.tail _ hq))
  have oldN : ∀ q ∈ R, q ∈ (la, lsOb ls nla) :: (742, tabObj t1) :: (906, tabObj t2) :: (R ++ M.all w.params) := fun q hq => .tail _ (.tail _ (.tail _ (List.mem_append_left _ hq)))
  have nw : ∀ p ∈ M'.all w.params, @Ne Nat p.1 L ∧ h₀.get? p.1 = none := fun p hp => by
    rcases new p hp with ⟨o, ho⟩ | e
    · exact (D.N (p.1, o) (.tail _ (.tail _ (.tail _ (List.mem_append_right _ ho))))).2
    · exact ⟨Fr.neOf F e, none_of_keep F.keep e⟩
  refine ⟨fun q hq => ?_, fun q hq p hp => ?_⟩
  · refine memc hq ?_ fun hq => ?_
    · exact ⟨kb _ _ (off _ (.head _) la7 la9 (.head _)) (D.N _ (.head _)).1, (D.N _ (.head _)).2⟩
    refine memc hq ?_ fun hq => ?_
    · exact ⟨e1, n1⟩
    refine memc hq ?_ fun hq => ?_
    · exact ⟨e2, n2⟩
    rcases List.mem_append.mp hq with hq | hq
    · exact ⟨kb _ _ (off q (old q hq) (D.Rla q hq).2.1 (D.Rla q hq).2.2 (oldN q hq)) (D.N q (oldN q hq)).1, (D.N q (oldN q hq)).2⟩
    · exact ⟨I' q hq, nw q hq⟩
  · have key : ∀ (b : Addr) (x : Obj), (b, x) ∈ (la, lsOb ls nla) :: (742, tabObj t1) :: (906, tabObj t2) :: R → h.get? b = some x → @Ne Nat b p.1 := fun b x hb e => by
      rcases new p hp with ⟨o, ho⟩ | e'
      · exact D.dis (b, x) hb (p.1, o) ho
      · exact fun q => by rw [← (show b = p.1 from q), e] at e'; cases e'
    refine memc hq ?_ fun hq => ?_
    · exact key _ _ (.head _) (D.N _ (.head _)).1
    refine memc hq ?_ fun hq => ?_
    · exact key _ _ (.tail _ (.head _)) (D.N _ (.tail _ (.head _))).1
    refine memc hq ?_ fun hq => ?_
    · exact key _ _ (.tail _ (.tail _ (.head _))) (D.N _ (.tail _ (.tail _ (.head _)))).1
    · exact key q.1 q.2 (old q hq) (D.N q (oldN q hq)).1
end
section
variable {prog : Program} {w : World} {A : Around} {E : Value → Shared → Prop} {s : Shared} {Q : Value → Shared → Prop} {x : PairR}
theorem item_pr0 {value slice : PySem.Expr} {t : Tok} {e : Int} (he : e = 0) (hx : s.heap.get? x.x = some x.ob) (h : Q (.str x.n1 x.k1) s)
    (hs : subscripted slice false (.ref x.x) (.int e t) = operate [.ref x.x, .int e t] (getItem (.ref x.x) (.int e t)) := by with_unfolding_all rfl) :
    wpAny (model prog w) A (subscriptTail value slice (.ref x.x) (.int e t)) Q E s := by
  subst he
  have hl : s.heap.IsList x.x #[.str x.n1 x.k1, .str x.n2 x.k2] := ⟨_, hx, rfl, _, rfl⟩
  exact tail_any hl.typeIs slot_list_getitem.lookup (wpAny_getItem_list hl (by decide) (by decide) rfl h) hs
theorem item_pr1 {value slice : PySem.Expr} {t : Tok} {e : Int} (he : e = 1) (hx : s.heap.get? x.x = some x.ob) (h : Q (.str x.n2 x.k2) s)
    (hs : subscripted slice false (.ref x.x) (.int e t) = operate [.ref x.x, .int e t] (getItem (.ref x.x) (.int e t)) := by with_unfolding_all rfl) :
    wpAny (model prog w) A (subscriptTail value slice (.ref x.x) (.int e t)) Q E s := by
  subst he
  have hl : s.heap.IsList x.x #[.str x.n1 x.k1, .str x.n2 x.k2] := ⟨_, hx, rfl, _, rfl⟩
  exact tail_any hl.typeIs slot_list_getitem.lookup (wpAny_getItem_list hl (by decide) (by decide) rfl h) hs
end
end Mine
namespace Mine
section
variable {prog : Program} {w : World} {h h' : Heap} {M : MgrR} {P : Params}
noncomputable def MgrR.cleared (M : MgrR) (al ar : Addr) : MgrR := { M with al := al, ar := ar, oar := dictOf [] 0, nal := 0, roles := [], links := [], pairs := [] }
theorem MgrR.cleared_ok {al ar : Addr} (hs : (ar == sysModules) = false) (hd : @Ne Nat M.d ar) (hh : Heap) : (M.cleared al ar).Ok prog w := by
  refine ⟨dictOf_nil hh, rfl, hs, ?_, fun r hr => (nomatch hr), .nil, .nil, .nil, fun p hp => (nomatch hp), fun r hr => (nomatch hr), fun r hr => (nomatch hr)⟩
  show [M.d, ar].Nodup
  exact List.nodup_cons.mpr ⟨fun q => hd (List.mem_singleton.mp q), List.nodup_cons.mpr ⟨fun q => (nomatch q), .nil⟩⟩
theorem MgrR.cleared_all {al ar : Addr} : (M.cleared al ar).all P = [(M.a, instObj 929 M.d), (M.d, mgrDict P M.lv M.tl M.u1 M.u2 M.u3 M.u4 M.u5 al ar), (al, listOf #[] 0), (ar, dictOf [] 0)] := rfl
end
end Mine
namespace Mine
theorem lsOb_push (ls : List PairR) (l : PairR) (n : Nat) : (listOf ((ls.map fun l => Value.ref l.x).toArray.push (.ref l.x)) n) = lsOb (ls ++ [l]) n := by
  unfold lsOb
  simp
end Mine
namespace Mine
section
variable {prog : Program} {w : World} {h₀ h h' : Heap} {L la : Addr} {nla : Nat} {ls : List PairR} {M : MgrR} {t1 t2 t2' : Array Value} {R : List (Addr × Obj)} {m : Str → Option Value} {o : Obj} {rs : List RoleR}
theorem MgrR.grow_new {P : Params} (hrs : ∀ q ∈ rs, h.get? q.x = none ∧ h.get? q.dx = none ∧ h.get? q.rl = none ∧ h.get? q.ul = none) : ∀ p ∈ (M.grow o rs).all P, (∃ o, (p.1, o) ∈ M.all P) ∨ h.get? p.1 = none := by
  have old : ∀ r ∈ M.roles ++ rs, r ∈ M.roles ∨ r ∈ rs := fun r hr => List.mem_append.mp hr
  refine (M.grow o rs).forall_all (.inl ⟨_, .head _⟩) (.inl ⟨M.dob P, .tail _ (.head _)⟩) (.inl ⟨M.lob, .tail _ (.tail _ (.head _))⟩) (.inl ⟨M.oar, .tail _ (.tail _ (.tail _ (.head _)))⟩) ?_ ?_ ?_ ?_ (fun l hl => .inl ⟨_, M.mem_link hl⟩)
  · intro r hr
    rcases old r hr with hr | hr
    · exact .inl ⟨_, M.mem_dic hr⟩
    · exact .inr (hrs r hr).2.1
  · intro r hr
    rcases old r hr with hr | hr
    · exact .inl ⟨instObj 814 r.dx, M.mem_fix hr (.head _)⟩
    · exact .inr (hrs r hr).1
  · intro r hr
    rcases old r hr with hr | hr
    · exact .inl ⟨listOf (r.as.map Value.ref).toArray r.na, M.mem_fix hr (.tail _ (.head _))⟩
    · exact .inr (hrs r hr).2.2.1
  · intro r hr
    rcases old r hr with hr | hr
    · exact .inl ⟨listOf (r.bs.map Value.ref).toArray r.nb, M.mem_fix hr (.tail _ (.tail _ (.head _)))⟩
    · exact .inr (hrs r hr).2.2.2
theorem LawD.grow (D : LawD prog w h₀ L la nla ls M t1 t2 R h) (F : Fr h₀ L h m) (O' : (M.grow o rs).Ok prog w) (I' : (M.grow o rs).In w.params h') (hrs : ∀ q ∈ rs, q.nm ∈ Mine.six ∧ h.get? q.x = none ∧ h.get? q.dx = none ∧ h.get? q.rl = none ∧ h.get? q.ul = none)
    (kb : KeepBut [M.ar, 906] h h') (e906 : h'.get? 906 = some (tabObj t2')) (tr : TriplesOk t2'.toList) : LawD prog w h₀ L la nla ls (M.grow o rs) t1 t2' R h' ∧ Fr h₀ L h' m := by
  have hm : (M.ar, M.oar) ∈ M.all w.params := .tail _ (.tail _ (.tail _ (.head _)))
  have nar := (D.N _ (.tail _ (.tail _ (.tail _ (List.mem_append_right _ hm))))).2
  have n906 := (D.N _ (.tail _ (.tail _ (.head _)))).2
  have nw := MgrR.grow_new (M := M) (o := o) (P := w.params) fun q hq => (hrs q hq).2
  have n7 : (742 : Addr) ∉ [M.ar, 906] := notin2 (D.dis _ (.tail _ (.head _)) _ hm) (by decide)
  obtain ⟨N', dis'⟩ := D.step F kb (fun b hb => by
    refine memc hb ?_ fun hb => ?_
    · exact .inr (.inr (.inr ⟨_, hm, rfl⟩))
    · exact .inr (.inr (.inl (List.mem_singleton.mp hb)))) I' nw (kb _ _ n7 (D.N _ (.tail _ (.head _))).1) e906
  refine ⟨⟨N', O', dis', D.Rla, D.hls, D.pairs, D.sync, fun n hn => ?_, D.six, D.tr1, tr⟩, Fr.but F kb (notin2 nar.1.symm n906.1.symm) fun b hb => ?_⟩
  · unfold MgrR.names MgrR.grow at hn
    rw [List.map_append] at hn
    rcases List.mem_append.mp hn with hn | hn
    · exact D.names n hn
    · obtain ⟨q, hq, rfl⟩ := List.mem_map.mp hn
      exact (hrs q hq).1
  · refine memc hb ?_ fun hb => ?_
    · exact nar.2
    · rw [List.mem_singleton.mp hb]; exact n906.2
end
end Mine
namespace Mine
section
variable {prog : Program} {w : World} {h₀ h h' : Heap} {L la c : Addr} {nla : Nat} {ls : List PairR} {M : MgrR} {t1 t2 : Array Value} {R : List (Addr × Obj)} {o o' : Obj}
theorem LawD.recell (D : LawD prog w h₀ L la nla ls M t1 t2 ((c, o) :: R) h) (hls : ∀ l ∈ ls, (l.x, l.ob) ∈ R) (N : News h₀ L h' ((c, o') :: (la, lsOb ls nla) :: (742, tabObj t1) :: (906, tabObj t2) :: (R ++ M.all w.params))) : LawD prog w h₀ L la nla ls M t1 t2 ((c, o') :: R) h' := by
  refine ⟨newsSub N ?_, D.O, ?_, ?_, fun l hl => .tail _ (hls l hl), D.pairs, D.sync, D.names, D.six, D.tr1, D.tr2⟩
  · refine List.forall_mem_cons.mpr ⟨.tail _ (.head _), List.forall_mem_cons.mpr ⟨.tail _ (.tail _ (.head _)), List.forall_mem_cons.mpr ⟨.tail _ (.tail _ (.tail _ (.head _))), List.forall_mem_cons.mpr ⟨.head _, fun q hq => .tail _ (.tail _ (.tail _ (.tail _ hq)))⟩⟩⟩⟩
  · refine List.forall_mem_cons.mpr ⟨D.dis _ (.head _), List.forall_mem_cons.mpr ⟨D.dis _ (.tail _ (.head _)), List.forall_mem_cons.mpr ⟨D.dis _ (.tail _ (.tail _ (.head _))), List.forall_mem_cons.mpr ⟨D.dis (c, o) (.tail _ (.tail _ (.tail _ (.head _)))), fun q hq => D.dis q (.tail _ (.tail _ (.tail _ (.tail _ hq))))⟩⟩⟩⟩
  · exact List.forall_mem_cons.mpr ⟨D.Rla (c, o) (.head _), fun q hq => D.Rla q (.tail _ hq)⟩
theorem LawD.ledger (D : LawD prog w h₀ L la nla ls M t1 t2 R h) {l0 : List (Addr × Obj)} (h0 : ∀ q ∈ l0, q ∈ R) : News h₀ L h (l0 ++ (la, lsOb ls nla) :: (742, tabObj t1) :: (906, tabObj t2) :: (R ++ M.all w.params)) := newsSub D.N fun q hq => by
  rcases List.mem_append.mp hq with hq | hq
  · exact .tail _ (.tail _ (.tail _ (List.mem_append_left _ (h0 q hq))))
  · exact hq
theorem LawD.off (D : LawD prog w h₀ L la nla ls M t1 t2 ((c, o) :: R) h) (hR : ∀ q ∈ R, @Ne Nat q.1 c) : ∀ q ∈ (la, lsOb ls nla) :: (742, tabObj t1) :: (906, tabObj t2) :: (R ++ M.all w.params), @Ne Nat q.1 c := by
  refine List.forall_mem_cons.mpr ⟨(D.Rla _ (.head _)).1.symm, List.forall_mem_cons.mpr ⟨(D.Rla _ (.head _)).2.1.symm, List.forall_mem_cons.mpr ⟨(D.Rla _ (.head _)).2.2.symm, fun q hq => ?_⟩⟩⟩
  rcases List.mem_append.mp hq with hq | hq
  · exact hR q hq
  · exact (D.dis (c, o) (.tail _ (.tail _ (.tail _ (.head _)))) q hq).symm
end
end Mine
namespace Mine
section
variable {prog : Program} {w : World} {h₀ h h' : Heap} {L la : Addr} {nla : Nat} {ls : List PairR} {M : MgrR} {t1 t2 : Array Value} {R : List (Addr × Obj)}
theorem LawD.at (D : LawD prog w h₀ L la nla ls M t1 t2 R h) (N : News h₀ L h' ((la, lsOb ls nla) :: (742, tabObj t1) :: (906, tabObj t2) :: (R ++ M.all w.params))) : LawD prog w h₀ L la nla ls M t1 t2 R h' :=
  ⟨N, D.O, D.dis, D.Rla, D.hls, D.pairs, D.sync, D.names, D.six, D.tr1, D.tr2⟩
end
end Mine
namespace Mine
section
variable {prog : Program} {w : World} {h₀ h h' : Heap} {L la c : Addr} {nla : Nat} {ls : List PairR} {M : MgrR} {t1 t2 : Array Value} {R R' X : List (Addr × Obj)} {o o' : Obj}
theorem LawD.mono (D : LawD prog w h₀ L la nla ls M t1 t2 R h) (sub : ∀ q ∈ R', q ∈ R) (hls : ∀ l ∈ ls, (l.x, l.ob) ∈ R') : LawD prog w h₀ L la nla ls M t1 t2 R' h := by
  refine ⟨newsSub D.N ?_, D.O, ?_, fun q hq => D.Rla q (sub q hq), hls, D.pairs, D.sync, D.names, D.six, D.tr1, D.tr2⟩
  · refine List.forall_mem_cons.mpr ⟨.head _, List.forall_mem_cons.mpr ⟨.tail _ (.head _), List.forall_mem_cons.mpr ⟨.tail _ (.tail _ (.head _)), fun q hq => .tail _ (.tail _ (.tail _ ?_))⟩⟩⟩
    rcases List.mem_append.mp hq with hq | hq
    · exact List.mem_append_left _ (sub q hq)
    · exact List.mem_append_right _ hq
  · exact List.forall_mem_cons.mpr ⟨D.dis _ (.head _), List.forall_mem_cons.mpr ⟨D.dis _ (.tail _ (.head _)), List.forall_mem_cons.mpr ⟨D.dis _ (.tail _ (.tail _ (.head _))), fun q hq => D.dis q (.tail _ (.tail _ (.tail _ (sub q hq))))⟩⟩⟩
theorem LawD.more (D : LawD prog w h₀ L la nla ls M t1 t2 R h) (hX : ∀ x ∈ X, @Ne Nat x.1 L ∧ h₀.get? x.1 = none ∧ h.get? x.1 = some x.2 ∧ ∀ q ∈ (la, lsOb ls nla) :: (742, tabObj t1) :: (906, tabObj t2) :: (R ++ M.all w.params), @Ne Nat q.1 x.1) : LawD prog w h₀ L la nla ls M t1 t2 (X ++ R) h := by
  refine ⟨?_, D.O, ?_, ?_, fun l hl => List.mem_append_right _ (D.hls l hl), D.pairs, D.sync, D.names, D.six, D.tr1, D.tr2⟩
  · refine List.forall_mem_cons.mpr ⟨D.N _ (.head _), List.forall_mem_cons.mpr ⟨D.N _ (.tail _ (.head _)), List.forall_mem_cons.mpr ⟨D.N _ (.tail _ (.tail _ (.head _))), fun q hq => ?_⟩⟩⟩
    rw [List.append_assoc] at hq
    rcases List.mem_append.mp hq with hq | hq
    · exact ⟨(hX q hq).2.2.1, (hX q hq).1, (hX q hq).2.1⟩
    · exact D.N q (.tail _ (.tail _ (.tail _ hq)))
  · refine List.forall_mem_cons.mpr ⟨D.dis _ (.head _), List.forall_mem_cons.mpr ⟨D.dis _ (.tail _ (.head _)), List.forall_mem_cons.mpr ⟨D.dis _ (.tail _ (.tail _ (.head _))), fun q hq => ?_⟩⟩⟩
    rcases List.mem_append.mp hq with hq | hq
    · exact fun p hp => ((hX q hq).2.2.2 p (.tail _ (.tail _ (.tail _ (List.mem_append_right _ hp))))).symm
    · exact D.dis q (.tail _ (.tail _ (.tail _ hq)))
  · intro q hq
    rcases List.mem_append.mp hq with hq | hq
    · exact ⟨((hX q hq).2.2.2 _ (.head _)).symm, ((hX q hq).2.2.2 _ (.tail _ (.head _))).symm, ((hX q hq).2.2.2 _ (.tail _ (.tail _ (.head _)))).symm⟩
    · exact D.Rla q hq
theorem LawD.cell_first (D : LawD prog w h₀ L la nla ls M t1 t2 ((c, o) :: R) h) : News h₀ L h ((c, o) :: (la, lsOb ls nla) :: (742, tabObj t1) :: (906, tabObj t2) :: (R ++ M.all w.params)) := newsSub D.N (by
  refine List.forall_mem_cons.mpr ⟨.tail _ (.tail _ (.tail _ (.head _))), List.forall_mem_cons.mpr ⟨.head _, List.forall_mem_cons.mpr ⟨.tail _ (.head _), List.forall_mem_cons.mpr ⟨.tail _ (.tail _ (.head _)), fun q hq => .tail _ (.tail _ (.tail _ (.tail _ hq)))⟩⟩⟩⟩)
end
theorem parts6 {α : Type} (l : List α) : l = l.take 4 ++ ((l.drop 4).take 1 ++ ((l.drop 5).take 1 ++ l.drop 6)) := by
  have e1 : l = l.take 4 ++ l.drop 4 := (List.take_append_drop 4 l).symm
  have e2 : l.drop 4 = (l.drop 4).take 1 ++ (l.drop 4).drop 1 := (List.take_append_drop 1 _).symm
  have e3 : l.drop 5 = (l.drop 5).take 1 ++ (l.drop 5).drop 1 := (List.take_append_drop 1 _).symm
  rw [List.drop_drop] at e2 e3
  rw [← e3, ← e2]; exact e1
end Mine
namespace Mine
theorem led_ne {g h : Heap} {L c : Addr} {led : List (Addr × Obj)} (N : News g L h led) (hc : h.get? c = none) : ∀ q ∈ led, @Ne Nat q.1 c := fun q hq e => by
  have := (N q hq).1
  rw [show q.1 = c from e, hc] at this; cases this
theorem led_new {g h h' : Heap} {L c : Addr} {o : Obj} {m : Str → Option Value} {led : List (Addr × Obj)} (F : Fr g L h m) (hc : h.get? c = none) (e : h'.get? c = some o) (N : News g L h' led) : News g L h' ((c, o) :: led) := news_cons (p := (c, o)) e (Fr.neOf F hc) (none_of_keep F.keep hc) N
end Mine
end
section
open PySem PySem.W PyProof.Rows PySem.Calls
namespace Mine
structure HasJ (prog : Program) (w : World) (h₀ : Heap) (L la : Addr) (nla : Nat) (ls : List PairR) (ps1 : Array Value) (R : List (Addr × Obj)) (m : Str → Option Value) (os : OsState) (a : Addr) (lv : Nat) (nm : Str) (own : List Addr) (i : Nat) (ys : List Value) (M : MgrR) (ps2 : Array Value) (t : Shared) : Prop where
  D : LawD prog w h₀ L la nla ls M ps1 ps2 R t.heap
  F : Fr h₀ L t.heap m
  hG : AllBare t.gens
  hos : t.os = os
  ha : M.a = a
  hlv : M.lv = (lv : Int)
  hy : ys = boolsV ((six.take i).map fun b => hasN (ls.map PairR.pr) b lv [nm])
  o1 : ∀ b ∈ own, @Ne Nat b L ∧ h₀.get? b = none
  o2 : ∀ b ∈ own, ∀ q ∈ (la, lsOb ls nla) :: (742, tabObj ps1) :: (906, tabObj ps2) :: (R ++ M.all w.params), @Ne Nat q.1 b
section
variable {prog : Program} {w : World} {h₀ : Heap} {L la a : Addr} {nla lv i : Nat} {ls : List PairR} {ps1 ps2 ps3 : Array Value} {R : List (Addr × Obj)} {m : Str → Option Value} {os : OsState} {nm : Str} {own : List Addr} {ys : List Value} {M : MgrR} {t t' : Shared} {h' : Heap} {tk : Nat} {o : Obj} {rs : List RoleR}
theorem HasJ.but (J : HasJ prog w h₀ L la nla ls ps1 R m os a lv nm own i ys M ps2 t) (k : KeepBut own t.heap h') : HasJ prog w h₀ L la nla ls ps1 R m os a lv nm own i ys M ps2 { t with heap := h', toks := tk } :=
  ⟨J.D.at (News.but J.D.N k fun q hq e => J.o2 _ e q hq rfl), Fr.but J.F k (fun e => (J.o1 _ e).1 rfl) fun b hb => (J.o1 b hb).2, J.hG, J.hos, J.ha, J.hlv, J.hy, J.o1, J.o2⟩
theorem HasJ.step (J : HasJ prog w h₀ L la nla ls ps1 R m os a lv nm own i ys M ps2 t) (hex : ∀ b ∈ own, ∃ o, t.heap.get? b = some o) (O' : (M.grow o rs).Ok prog w) (I' : (M.grow o rs).In w.params t'.heap) (hrs : ∀ q ∈ rs, q.nm ∈ Mine.six ∧ t.heap.get? q.x = none ∧ t.heap.get? q.dx = none ∧ t.heap.get? q.rl = none ∧ t.heap.get? q.ul = none)
    (kb : KeepBut [M.ar, 906] t.heap t'.heap) (e906 : t'.heap.get? 906 = some (tabObj ps3)) (tr : TriplesOk ps3.toList) (hG : AllBare t'.gens) (hos : t'.os = t.os) {b : Str} (hb : six[i]? = some b) :
    HasJ prog w h₀ L la nla ls ps1 R m os a lv nm own (i + 1) (ys ++ [.bool (hasN M.pairs b lv [nm])]) (M.grow o rs) ps3 t' ∧ ∀ x ∈ own, ∀ ox, t.heap.get? x = some ox → t'.heap.get? x = some ox := by
  obtain ⟨D', F'⟩ := J.D.grow J.F O' I' hrs kb e906 tr
  refine ⟨⟨D', F', hG, hos.trans J.hos, J.ha, J.hlv, ?_, J.o1, fun x hx => ?_⟩, fun x hx ox e => kb _ _ ?_ e⟩
  · rw [J.hy, J.D.pairs, List.take_add_one, hb]
    unfold boolsV
    simp
  · have old := J.o2 x hx
    refine List.forall_mem_cons.mpr ⟨old _ (.head _), List.forall_mem_cons.mpr ⟨old (742, tabObj ps1) (.tail _ (.head _)), List.forall_mem_cons.mpr ⟨old (906, tabObj ps2) (.tail _ (.tail _ (.head _))), fun q hq => ?_⟩⟩⟩
    rcases List.mem_append.mp hq with hq | hq
    · exact old q (.tail _ (.tail _ (.tail _ (List.mem_append_left _ hq))))
    · rcases MgrR.grow_new (M := M) (o := o) (P := w.params) (fun q hq => (hrs q hq).2) q hq with ⟨o', ho⟩ | e
      · exact old (q.1, o') (.tail _ (.tail _ (.tail _ (List.mem_append_right _ ho))))
      · obtain ⟨ox, ex⟩ := hex x hx
        exact fun e' => by rw [show q.1 = x from e', ex] at e; cases e
  · exact notin2 (J.o2 x hx (M.ar, M.oar) (.tail _ (.tail _ (.tail _ (List.mem_append_right _ (.tail _ (.tail _ (.tail _ (.head _)))))))) |>.symm) (J.o2 x hx (906, tabObj ps2) (.tail _ (.tail _ (.head _)))).symm
theorem its6_at {tk : Nat → Tok} {v : Value} (h : (its6 tk)[i]? = some v) : i < 6 ∧ v = .str (nm6 i) (tk i) ∧ six[i]? = some (nm6 i) := by
  unfold its6 at h
  rw [List.getElem?_map] at h
  obtain ⟨j, hj, rfl⟩ := Option.map_eq_some_iff.mp h
  obtain ⟨hlt, e⟩ := List.getElem?_eq_some_iff.mp hj
  rw [List.length_range] at hlt
  rw [List.getElem_range] at e
  subst e
  refine ⟨hlt, rfl, ?_⟩
  have all : ∀ j < 6, six[j]? = some (nm6 j) := by decide +kernel
  exact all i hlt
theorem nm6_in (h : i < 6) : nm6 i ∈ Mine.six := by
  have all : ∀ j < 6, nm6 j ∈ Mine.six := by decide +kernel
  exact all i h
end
end Mine
namespace Mine
theorem all_bools {p : Nat → Bool} {f : Nat → Bool} {g : Nat → Value} (hp : ∀ i, p i = true) (hg : ∀ i, g i = .bool (f i)) : ((List.range 6).filter p).map g = boolsV ((List.range 6).map f) := by
  rw [List.filter_eq_self.mpr fun i _ => hp i]
  unfold boolsV
  rw [List.map_map]
  exact List.map_congr_left fun i _ => hg i
theorem six_range {f : Str → Bool} : six.map f = (List.range 6).map fun i => f (nm6 i) := by
  have : six = (List.range 6).map nm6 := by decide +kernel
  rw [this, List.map_map]; rfl
end Mine
namespace Mine
noncomputable def isNm (nm : Str) : Value → Bool | .str a _ => a == nm | _ => false
theorem comp_succ (ls : List PairR) (nm : Str) : (((ls.map fun l => (Value.str l.n1 l.k1, Value.str l.n2 l.k2)).filter fun p => isNm nm p.1).map (·.2)) = (ls.filter fun l => l.n1 == nm).map fun l => .str l.n2 l.k2 := by
  rw [List.filter_map, List.map_map]; rfl
theorem comp_pred (ls : List PairR) (nm : Str) : (((ls.map fun l => (Value.str l.n1 l.k1, Value.str l.n2 l.k2)).filter fun p => isNm nm p.2).map (·.1)) = (ls.filter fun l => l.n2 == nm).map fun l => .str l.n1 l.k1 := by
  rw [List.filter_map, List.map_map]; rfl
theorem succ_ls (ls : List PairR) (nm : Str) : succN (ls.map PairR.pr) nm = (ls.filter fun l => l.n1 == nm).map (·.n2) := by
  unfold succN
  rw [List.filter_map, List.map_map]; rfl
theorem pred_ls (ls : List PairR) (nm : Str) : predN (ls.map PairR.pr) nm = (ls.filter fun l => l.n2 == nm).map (·.n1) := by
  unfold predN
  rw [List.filter_map, List.map_map]; rfl
end Mine
end
section
open PySem PySem.W PyProof.Rows PySem.Calls
namespace Mine
section
variable {prog : Program} {w : World} {h₀ h h' : Heap} {L : Addr} {M M' : MgrR} {t1 t2 t1' t2' : Array Value} {R R' X : List (Addr × Obj)} {m : Str → Option Value} {S : List Addr} {o : Obj} {rs : List RoleR}
structure ChS (prog : Program) (w : World) (h₀ : Heap) (L : Addr) (M : MgrR) (t1 t2 : Array Value) (R : List (Addr × Obj)) (h : Heap) : Prop where
  N : News h₀ L h ((742, tabObj t1) :: (906, tabObj t2) :: (R ++ M.all w.params))
  O : M.Ok prog w
  dis : ∀ q ∈ (742, tabObj t1) :: (906, tabObj t2) :: R, ∀ p ∈ M.all w.params, @Ne Nat q.1 p.1
  R7 : ∀ q ∈ R, @Ne Nat q.1 742 ∧ @Ne Nat q.1 906
  tr1 : TriplesOk t1.toList
  tr2 : TriplesOk t2.toList
  names : ∀ n ∈ M.names, n ∈ nmCs
theorem ChS.In (D : ChS prog w h₀ L M t1 t2 R h) : M.In w.params h := fun p hp => (D.N p (.tail _ (.tail _ (List.mem_append_right _ hp)))).1
theorem ChS.roles (D : ChS prog w h₀ L M t1 t2 R h) : M.roles.length ≤ 15 := by
  have := nodup_len' M.names nmCs D.O.names D.names
  unfold MgrR.names nmCs at this
  rw [List.length_map, List.length_map, List.length_range] at this; exact this
theorem ChS.at (D : ChS prog w h₀ L M t1 t2 R h) (N : News h₀ L h' ((742, tabObj t1) :: (906, tabObj t2) :: (R ++ M.all w.params))) : ChS prog w h₀ L M t1 t2 R h' := ⟨N, D.O, D.dis, D.R7, D.tr1, D.tr2, D.names⟩
theorem ChS.more (D : ChS prog w h₀ L M t1 t2 R h) {I : Addr} {oI : Obj} (i1 : @Ne Nat I L) (i2 : h₀.get? I = none) (i3 : ∀ q ∈ (742, tabObj t1) :: (906, tabObj t2) :: (R ++ M.all w.params), @Ne Nat q.1 I) (e : h.get? I = some oI) : ChS prog w h₀ L M t1 t2 ((I, oI) :: R) h := by
  refine ⟨?_, D.O, ?_, List.forall_mem_cons.mpr ⟨⟨(i3 _ (.head _)).symm, (i3 _ (.tail _ (.head _))).symm⟩, D.R7⟩, D.tr1, D.tr2, D.names⟩
  · exact List.forall_mem_cons.mpr ⟨D.N _ (.head _), List.forall_mem_cons.mpr ⟨D.N _ (.tail _ (.head _)), List.forall_mem_cons.mpr ⟨⟨e, i1, i2⟩, fun q hq => D.N q (.tail _ (.tail _ hq))⟩⟩⟩
  · exact List.forall_mem_cons.mpr ⟨D.dis _ (.head _), List.forall_mem_cons.mpr ⟨D.dis _ (.tail _ (.head _)), List.forall_mem_cons.mpr ⟨fun p hp => (i3 p (.tail _ (.tail _ (List.mem_append_right _ hp)))).symm, fun q hq => D.dis q (.tail _ (.tail _ hq))⟩⟩⟩
theorem ChS.less {I : Addr} {oI : Obj} (D : ChS prog w h₀ L M t1 t2 ((I, oI) :: R) h) : ChS prog w h₀ L M t1 t2 R h ∧ (∀ q ∈ (742, tabObj t1) :: (906, tabObj t2) :: M.all w.params, @Ne Nat q.1 I) ∧ h.get? I = some oI := by
  refine ⟨⟨?_, D.O, ?_, fun q hq => D.R7 q (.tail _ hq), D.tr1, D.tr2, D.names⟩, ?_, (D.N _ (.tail _ (.tail _ (.head _)))).1⟩
  · exact List.forall_mem_cons.mpr ⟨D.N _ (.head _), List.forall_mem_cons.mpr ⟨D.N _ (.tail _ (.head _)), fun q hq => D.N q (.tail _ (.tail _ (.tail _ hq)))⟩⟩
  · exact List.forall_mem_cons.mpr ⟨D.dis _ (.head _), List.forall_mem_cons.mpr ⟨D.dis _ (.tail _ (.head _)), fun q hq => D.dis q (.tail _ (.tail _ (.tail _ hq)))⟩⟩
  · exact List.forall_mem_cons.mpr ⟨(D.R7 (I, oI) (.head _)).1.symm, List.forall_mem_cons.mpr ⟨(D.R7 (I, oI) (.head _)).2.symm, fun q hq => (D.dis (I, oI) (.tail _ (.tail _ (.head _))) q hq).symm⟩⟩
theorem ChS.step (D : ChS prog w h₀ L M t1 t2 R h) (F : Fr h₀ L h m) (kb : KeepBut S h h') (hS : ∀ b ∈ S, b = 906 ∨ ∃ p ∈ M.all w.params, p.1 = b) (O' : M'.Ok prog w) (I' : M'.In w.params h') (nm' : ∀ n ∈ M'.names, n ∈ nmCs)
    (new : ∀ p ∈ M'.all w.params, (∃ o, (p.1, o) ∈ M.all w.params) ∨ h.get? p.1 = none) (e2 : h'.get? 906 = some (tabObj t2')) (tr : TriplesOk t2'.toList) : ChS prog w h₀ L M' t1 t2' R h' ∧ Fr h₀ L h' m := by
  have n2 := (D.N _ (.tail _ (.head _))).2
  have off : ∀ q ∈ (742, tabObj t1) :: (906, tabObj t2) :: R, q.1 ≠ 906 → q.1 ∉ S := fun q hq q9 hs => by
    rcases hS _ hs with e | ⟨p, hp, e⟩
    · exact q9 e
    · exact D.dis q hq p hp e.symm
  have oldS : ∀ b ∈ S, @Ne Nat b L ∧ h₀.get? b = none := fun b hb => by
    rcases hS b hb with rfl | ⟨p, hp, rfl⟩
    · exact n2
    · exact (D.N p (.tail _ (.tail _ (List.mem_append_right _ hp)))).2
  have nw : ∀ p ∈ M'.all w.params, @Ne Nat p.1 L ∧ h₀.get? p.1 = none := fun p hp => by
    rcases new p hp with ⟨o, ho⟩ | e
    · exact (D.N (p.1, o) (.tail _ (.tail _ (List.mem_append_right _ ho)))).2
    · exact ⟨Fr.neOf F e, none_of_keep F.keep e⟩
  have key : ∀ (b : Addr) (x : Obj), (b, x) ∈ (742, tabObj t1) :: (906, tabObj t2) :: R → h.get? b = some x → ∀ p ∈ M'.all w.params, @Ne Nat b p.1 := fun b x hb e p hp => by
    rcases new p hp with ⟨o, ho⟩ | e'
    · exact D.dis (b, x) hb (p.1, o) ho
    · exact fun q => by rw [← (show b = p.1 from q), e] at e'; cases e'
  refine ⟨⟨?_, O', ?_, D.R7, D.tr1, tr, nm'⟩, Fr.but F kb (fun q => (oldS L q).1 rfl) fun b hb => (oldS b hb).2⟩
  · refine List.forall_mem_cons.mpr ⟨⟨kb _ _ (off _ (.head _) (show (742 : Nat) ≠ 906 by decide)) (D.N _ (.head _)).1, (D.N _ (.head _)).2⟩, List.forall_mem_cons.mpr ⟨⟨e2, n2⟩, fun q hq => ?_⟩⟩
    rcases List.mem_append.mp hq with hq | hq
    · exact ⟨kb _ _ (off q (.tail _ (.tail _ hq)) (D.R7 q hq).2) (D.N q (.tail _ (.tail _ (List.mem_append_left _ hq)))).1, (D.N q (.tail _ (.tail _ (List.mem_append_left _ hq)))).2⟩
    · exact ⟨I' q hq, nw q hq⟩
  · exact List.forall_mem_cons.mpr ⟨key _ _ (.head _) (D.N _ (.head _)).1, List.forall_mem_cons.mpr ⟨key _ (tabObj t2) (.tail _ (.head _)) (D.N _ (.tail _ (.head _))).1, fun q hq => key q.1 q.2 (.tail _ (.tail _ hq)) (D.N q (.tail _ (.tail _ (List.mem_append_left _ hq)))).1⟩⟩
end
end Mine
end
section
open PySem PySem.W PyProof.Rows PySem.Calls
namespace Mine
theorem noT (w : World) : noTabs (hd.heap_1 w.params) = true := by kernel_rfl
theorem old_end {tabs : List (Addr × Addr)} {h₁ h' : Heap} {L : Addr} {m' : Str → Option Value} {t1 t2 : Array Value} (ht : tabs = [(744, 742), (908, 906)]) (hT : TabsAt tabs h₁) (F : Fr (ghostOf h₁ tabs) L h' m') (N : News (ghostOf h₁ tabs) L h' [(742, tabObj t1), (906, tabObj t2)]) : OldK h₁ h' := by
  have grown : ∀ b o, b ∈ tabs.map (·.2) → h₁.get? b = some o → isCodeTable h₁ b ∧ o = tabObj #[] ∧ ∃ ps, h'.get? b = some (tabObj ps) := fun b o hb e => by
    obtain ⟨q, hq, rfl⟩ := List.mem_map.mp hb
    have e2 := (hT q hq).2
    rw [e] at e2
    refine ⟨((hT q hq).1.tab (hT q hq).2).isCodeTable, Option.some.inj e2, ?_⟩
    rw [ht] at hq
    rcases List.mem_cons.mp hq with rfl | hq
    · exact ⟨_, (N _ (.head _)).1⟩
    · rw [List.mem_singleton.mp hq]; exact ⟨_, (N _ (.tail _ (.head _))).1⟩
  refine ⟨fun b o e => ?_, fun b o e => ?_⟩
  · by_cases hb : b ∈ tabs.map (·.2)
    · obtain ⟨ht, rfl, ps, hP⟩ := grown b o hb e
      exact .inr (.inl ⟨ht, rfl, #[], ps, rfl, by rw [Array.empty_append]; exact hP⟩)
    · exact .inl (F.keep _ _ (ghost_ne e hb))
  · by_cases hb : b ∈ tabs.map (·.2)
    · obtain ⟨_, _, ps, hP⟩ := grown b o hb e
      exact ⟨_, hP⟩
    · exact ⟨o, F.keep _ _ (ghost_ne e hb)⟩
theorem bind_law {kind : Str → Option NameKind} {v : Value} (hk : kind ("script" : Str) = some .local) : bindL kind [(("script" : Str), v)] (fun _ => none) = lawM (some v) none none none none none none none none none none none := by
  have e : bindL kind [(("script" : Str), v)] (fun _ => none) = fun y => if y = ("script" : Str) then some v else none := by
    unfold bindL
    rw [if_pos hk]; rfl
  rw [e]
  refine (lawM_of fun z hz => ?_).trans rfl
  exact if_neg fun (q : z = "script") => hz (by rw [q]; exact List.Mem.head _)
end Mine
namespace Mine
theorem fr_bind {g h : Heap} {L : Addr} {kind : Str → Option NameKind} {binds : List (Str × Value)} {v : Value} (F : Fr g L h (bindL kind binds (fun _ => none))) (hb : binds = [(("script" : Str), v)]) (hk : kind ("script" : Str) = some .local) : Fr g L h (lawM (some v) none none none none none none none none none none none) := by
  rw [hb, bind_law hk] at F; exact F
end Mine
end
local macro_rules | `(tactic| tb_start) => `(tactic| exact kept_get3)
namespace Mine
open PyProof.Rows.LCg PyProof.Rows.LCt
section
variable {prog : Program} {w : World} {p : Program} {loose : List Str} {mean : ExcName → Option Value} {mg mb : Str → Option Value}
  {A : Around} {h₀ : Heap} {L : Addr} {m : Str → Option Value} {s : Shared} {Q : Value → Shared → Prop} {E : Value → Shared → Prop}
variable {Q' : Flow → Shared → Prop}
theorem Here.le {dd uu dd' uu' : Nat} (H : Here w p loose mean mg mb A L h₀ dd uu) (a : dd' ≤ dd) (b : uu' ≤ uu) : Here w p loose mean mg mb A L h₀ dd' uu' := ⟨H.ex, H.hh, Nat.lt_of_le_of_lt (Nat.add_le_add_left a _) H.depth, Nat.lt_of_le_of_lt (Nat.add_le_add_left b _) H.units, H.X, H.T⟩
theorem grown_cons {g h h' : Heap} {led : List (Addr × Obj)} {D : Addr} {o : Obj} (F : Fr g L h m) (N : News g L h led) (e : h'.get? D = some o) (n : h.get? D = none) (k : Keep h h') : Fr g L h' m ∧ News g L h' ((D, o) :: led) ∧ Off1 D led ∧ True :=
  ⟨F.keeps k, news_cons (p := (D, o)) e (Fr.neOf F n) (none_of_keep F.keep n) (N.grown k), fresh_off N n, trivial⟩
theorem law_number_led {led : List (Addr × Obj)} {sc : Addr} {vs : List Value} {ns : List Int} {pl : Int} {t : Tok}
   (ret : ∀ h' tk' t', Fr h₀ L h' m → News h₀ L h' led → Builtin.Int.intBits (numN ns pl) ≤ 1048577 → Keep s.heap h' → Q (.int (numN ns pl) t') { s with heap := h', toks := tk' })
   (H : Here w p loose mean mg mb A L h₀ 650 9500 := by assumption) (F : Fr h₀ L s.heap m := by k_asm) (N : News h₀ L s.heap led := by k_asm) (hl : h₀.IsList sc vs.toArray := by assumption) (hI : IntsAre vs ns := by assumption) (hlen : ns.length ≤ 63 := by assumption) (hlay : PyData.layable0 (.list (ns.map .int)) = true := by assumption) (h0 : 0 ≤ pl := by omega) (h1 : pl ≤ 100 := by omega) :
   wpAny (model prog w) A (call (.ref 952) [.ref sc, .int pl t]) Q E s := by
  refine law_number_raw (H.le (by omega) (by omega)) F hl hI hlen h0 h1 ?_
  intro h' tk' t' k
  exact ret h' tk' t' (F.keeps k) (N.grown k) (numN_bits hlay h0 h1) k
theorem law_names_led {led : List (Addr × Obj)}
   (ret : ∀ D (tk : Nat → Tok) h' tk', Fr h₀ L h' m → News h₀ L h' ((D, listOf (its6 tk).toArray 0) :: led) → Off1 D led ∧ True → s.heap.get? D = none → Keep s.heap h' → Q (.ref D) { s with heap := h', toks := tk' })
   (H : Here w p loose mean mg mb A L h₀ 650 9500 := by assumption) (F : Fr h₀ L s.heap m := by k_asm) (N : News h₀ L s.heap led := by k_asm) :
   wpAny (model prog w) A (call (.ref 945) []) Q E s := by
  refine law_names_raw (H.le (by omega) (by omega)) F ?_
  intro D tk h' tk' e n k
  obtain ⟨a, b, c⟩ := grown_cons F N e n k
  exact ret D tk h' tk' a b c n k
theorem law_near_led {led : List (Addr × Obj)} (H : Here w p loose mean mg mb A L h₀ 650 9500) (F : Fr h₀ L s.heap m) (N : News h₀ L s.heap led) {la : Addr} {ls : List PairR} {nla : Nat} {name : Str} {kn : Tok} {steps : Int} {ts : Tok} (hla : s.heap.get? la = some (listOf (ls.map fun l => Value.ref l.x).toArray nla)) (hls : ∀ l ∈ ls, s.heap.get? l.x = some l.ob) (hlen : ls.length ≤ 60) (h0 : -1 ≤ steps) (h1 : steps ≤ 20)
   (ret : ∀ D (nv : List (Str × Tok)) n h' tk', nv.map (·.1) = nearN (ls.map PairR.pr) steps.toNat [name] → Fr h₀ L h' m → News h₀ L h' ((D, listOf (vals nv).toArray n) :: led) → Off1 D led ∧ True → s.heap.get? D = none → Keep s.heap h' → Q (.ref D) { s with heap := h', toks := tk' }) :
   wpAny (model prog w) A (call (.ref 957) [.ref la, .str name kn, .int steps ts]) Q E s := by
  refine law_near_raw (H.le (by omega) (by omega)) F hla hls hlen h0 h1 ?_
  intro D nv n h' tk' hn e n k
  obtain ⟨a, b, c⟩ := grown_cons F N e n k
  exact ret D nv _ h' tk' hn a b c n k
end
end Mine
local macro_rules | `(tactic| walk_at "subscriptTail") => `(tactic| (refine item_six ?_))
local macro_rules | `(tactic| mul_fits) => `(tactic| exact mulOk_of_bits (m := 1048577) (n := 6) (by assumption) (by decide) (by decide))
local macro_rules | `(tactic| walk_at "call ref") => `(tactic| (k_dflt (refine law_number_led ?_); intro h' tk' t' F' N' mul_ok k'; clear k'; (try k_sweep); (try dsimp only)))
local macro_rules | `(tactic| walk_at "call ref") => `(tactic| (k_dflt (refine law_names_led ?_); intro D' tkD' h' tk' F' N' off' n' k'; clear n' k'; (simp only [Off1, and_true] at off'); (try k_sweep); (try dsimp only)))
namespace Mine
open PyProof.Rows.LCg PyProof.Rows.LCt
section
variable {prog : Program} {w : World} {p : Program} {loose : List Str} {mean : ExcName → Option Value} {mg mb : Str → Option Value}
  {A : Around} {h₀ : Heap} {L : Addr} {m : Str → Option Value} {s : Shared} {Q : Value → Shared → Prop} {E : Value → Shared → Prop}
variable {Q' : Flow → Shared → Prop}
theorem segB {qual : Str} {scope : Scope} {body : List Stmt} {fa : Addr} {cd : Value} (hlaw : LawIs w qual scope body) (H : Here w p loose mean mg mb A L h₀ 650 9500)
   {sc : Addr} {vs : List Value} {ns : List Int} {lks de ki pi ot to : Option Value} {k : Int} {tk : Tok} {o3 : Obj} {v3 : Option Value} {R : List (Addr × Obj)}
   (F : Fr h₀ L s.heap (lawM (some (.ref sc)) lks (some (.int k tk)) de ki pi ot to none none none none)) (N : News h₀ L s.heap ((L + 1 + 1 + 1, o3) :: R)) (d3 : o3.data = .cell v3) (hR : ∀ q ∈ R, @Ne Nat q.1 (L + 1 + 1 + 1))
   (hl : h₀.IsList sc vs.toArray) (hI : IntsAre vs ns) (hlen : ns.length ≤ 63) (h0 : 0 ≤ k) (h1 : k ≤ 20) (hlay : PyData.layable0 (.list (ns.map .int)) = true)
   (ret : ∀ (D : Addr) (t1 t2 t3 t4 t5 : Tok) (o3' : Obj) h' tk', o3'.data = .cell (some (.ref D)) → Fr h₀ L h' (lawM (some (.ref sc)) lks (some (.int k tk)) (some (.int (numN ns (1 + k) * 37) t1)) (some (.int ((numN ns (1 + k) * 37).fmod 12) t2)) (some (.int ((numN ns (1 + k) * 37).fdiv 432) t3)) ot to none none none none) →
     News h₀ L h' ((L + 1 + 1 + 1, o3') :: (D, listOf #[.str (nm6 ((numN ns (1 + k) * 37).fdiv 12 |>.fmod 6).toNat) t4, .str (nm6 ((numN ns (1 + k) * 37).fdiv 72 |>.fmod 6).toNat) t5] 0) :: R) → (∀ q ∈ R, @Ne Nat q.1 D) → Q' .next { s with heap := h', toks := tk' }) :
   wpAny (model prog w) A (execs ((loopOf 3 body).take 4) (envOfC qual scope L fa cd)) Q' (fun _ _ => False) s := by
  obtain ⟨rfl, rfl, rfl⟩ := hlaw.eq (by k_is)
  show wpAny _ _ (execs [_, _, _, _] _) _ _ _
  have hHB := H
  refine H.openC ?_
  clear H
  intro A₀ base outer env B hA hf hke hh hdp hun X T
  clear hlaw
  k_steps
  rename Fr h₀ L _ _ => F9
  rename News h₀ L _ _ => N9
  rename (_ ∧ _ ∧ _ ∧ AllLt _ _) => l9
  rename (_ = Data.cell _) => d9
  exact ret _ _ _ _ _ _ _ _ _ d9 (Fr.law F9 (off_set (by decide) (off_set (by decide) (off_set (by decide) fun z hz => lawM_off hz)))) (newsSub N9 (List.forall_mem_cons.mpr ⟨.tail _ (.tail _ (.tail _ (.head _))), List.forall_mem_cons.mpr ⟨.head _, fun q hq => .tail _ (.tail _ (.tail _ (.tail _ hq)))⟩⟩)) (allLt_all l9.2.2.2)
end
end Mine
namespace Mine
open PyProof.Rows.LCg PyProof.Rows.LCt
section
variable {prog : Program} {w : World} {p : Program} {loose : List Str} {mean : ExcName → Option Value} {mg mb : Str → Option Value}
  {A : Around} {h₀ : Heap} {L : Addr} {m : Str → Option Value} {s : Shared} {Q : Value → Shared → Prop} {E : Value → Shared → Prop}
variable {Q' : Flow → Shared → Prop}
local macro_rules | `(tactic| walk_at "call builtin:len") => `(tactic| (k_here; (with_reducible show wpAny _ _ (call (Value.builtin "len") [Value.ref _]) _ _ _); refine' len_prs ?a ?b ?_; (case a => assumption); (case b => omega); intro tn; (try dsimp only)))
local macro_rules | `(tactic| walk_at "compareOp NotEq ref ref") => `(tactic| (with_reducible refine stop_cmp ?_))
local macro_rules | `(tactic| walk_at "subscriptTail") => `(tactic| (with_reducible refine stop_sub ?_))
theorem segC {qual : Str} {scope : Scope} {body : List Stmt} {fa : Addr} {cd : Value} (hlaw : LawIs w qual scope body) (H : Here w p loose mean mg mb A L h₀ 650 9500)
   {la : Addr} {nla : Nat} {ls : List PairR} {lp : PairR} {sc k de ot to : Option Value} {ki pi : Int} {t1 t2 : Tok} {o3 : Obj} {R : List (Addr × Obj)}
   (F : Fr h₀ L s.heap (lawM sc (some (.ref la)) k de (some (.int ki t1)) (some (.int pi t2)) ot to none none none none)) (N : News h₀ L s.heap ((L + 1 + 1 + 1, o3) :: R)) (d3 : o3.data = .cell (some (.ref lp.x))) (hR : ∀ q ∈ R, @Ne Nat q.1 (L + 1 + 1 + 1))
   (hla : h₀.get? la = some (listOf (ls.map fun l => Value.ref l.x).toArray nla) ∨ (la, listOf (ls.map fun l => Value.ref l.x).toArray nla) ∈ R) (hlen : ls.length ≤ 60)
   (hls : ∀ l ∈ ls, h₀.get? l.x = some l.ob ∨ (l.x, l.ob) ∈ R) (hok : ∀ l ∈ ls, okPr l.pr)
   (ret : ∀ (l : PairR) (o3' : Obj) h' tk', l = lp ∨ l ∈ ls → o3'.data = .cell (some (.ref l.x)) → Fr h₀ L h' (lawM sc (some (.ref la)) k de (some (.int ki t1)) (some (.int pi t2)) ot to none none none none) →
     News h₀ L h' ((L + 1 + 1 + 1, o3') :: R) → Q' .next { s with heap := h', toks := tk' }) :
   wpAny (model prog w) A (execs (((loopOf 3 body).drop 4).take 1) (envOfC qual scope L fa cd)) Q' (fun _ _ => False) s := by
  obtain ⟨rfl, rfl, rfl⟩ := hlaw.eq (by k_is)
  show wpAny _ _ (execs [_] _) _ _ _
  have hHB := H
  refine H.openC ?_
  clear H
  intro A₀ base outer env B hA hf hke hh hdp hun X T
  clear hlaw
  have lsAt : ∀ {hx : Heap} {mx : Str → Option Value} {led : List (Addr × Obj)}, Fr h₀ L hx mx → News h₀ L hx led → (∀ q ∈ R, q ∈ led) → ∀ l ∈ ls, hx.get? l.x = some l.ob := fun F N sub l hl => kept_get3 F N (hls l hl) sub
  have laAt : ∀ {hx : Heap} {mx : Str → Option Value} {led : List (Addr × Obj)}, Fr h₀ L hx mx → News h₀ L hx led → (∀ q ∈ R, q ∈ led) → hx.get? la = some (listOf (ls.map fun l => Value.ref l.x).toArray nla) := fun F N sub => kept_get3 F N hla sub
  k_steps
  rotate_left 2
  · exact ret lp o3 _ _ (.inl rfl) d3 F N
  all_goals
    rename Fr h₀ L _ _ => F2
    rename News h₀ L _ _ => N2
    refine Stop.mk ?_
    refine' links_ne_nil ?a ?b ?c ?d ?e ?_
    case a => exact laAt F2 N2 (fun q hq => .tail _ (.tail _ hq))
    case b => exact lsAt F2 N2 (fun q hq => .tail _ (.tail _ hq))
    case c => exact hok
    case d => exact News.get N2 (.head _)
    case e => k_units
    have N3 := newsSub (news' := (L + 1 + 1 + 1, o3) :: R) N2 fun q hq => .tail _ hq
    clear N2
    have la3 := laAt F2 N3 (fun q hq => .tail _ hq)
    have nz : ls ≠ [] → 0 < (ls.length : Int) := fun q => by have := List.length_pos_iff.mpr q; omega
    k_steps
    · rename ls ≠ [] => hne
      refine Stop.mk ?_
      refine' item_prs ?a ?b ?c ?d ?_
      case a => exact la3
      case b => exact Int.fmod_nonneg_of_pos _ (nz hne)
      case c => exact Int.fmod_lt_of_pos _ (nz hne)
      case d => omega
      intro l hl
      dsimp only
      k_steps
      rename Fr h₀ L _ _ => F9
      rename News h₀ L _ _ => N9
      rename (_ = Data.cell (some (Value.ref l.x))) => d9
      exact ret l _ _ _ (.inr hl) d9 F9 N9
    · rename Fr h₀ L _ _ => F9
      rename News h₀ L _ _ => N9
      rename (_ = Data.cell (some (Value.ref lp.x))) => d9
      exact ret lp _ _ _ (.inl rfl) d9 F9 N9
end
end Mine
namespace Mine
open PyProof.Rows.LCg PyProof.Rows.LCt
section
variable {prog : Program} {w : World} {p : Program} {loose : List Str} {mean : ExcName → Option Value} {mg mb : Str → Option Value}
  {A : Around} {h₀ : Heap} {L : Addr} {m : Str → Option Value} {s : Shared} {Q : Value → Shared → Prop} {E : Value → Shared → Prop}
variable {Q' : Flow → Shared → Prop}
theorem segI {qual : Str} {scope : Scope} {body : List Stmt} {fa : Addr} {cd : Value} {Q' : Flow → Shared → Prop} (hlaw : LawIs w qual scope body) (H : Here w p loose mean mg mb A L h₀ 650 9500)
   {sc : Addr} {vs : List Value} {ns : List Int} (hl : h₀.IsList sc vs.toArray) (hI : IntsAre vs ns) (hlen : ns.length ≤ 63) (hlay : PyData.layable0 (.list (ns.map .int)) = true)
   {lk k de ki pi ot to : Option Value} {R : List (Addr × Obj)}
   (F : Fr h₀ L s.heap (lawM (some (.ref sc)) lk k de ki pi ot to none none none none)) (N : News h₀ L s.heap R)
   (ret : ∀ (dv : Nat) (x d al ar : Addr) (lv : Int) (tl t0 t1 t2 t3 t4 t5 : Tok) (s' : Shared), dv ≤ 14 → lv = (if dv = 0 then 10 else (dv : Int)) → Fr h₀ L s'.heap (lawM (some (.ref sc)) lk k de ki pi ot to (some (.int (dv : Int) t0)) (some (.ref x)) none none) → News h₀ L s'.heap ((x, instObj 929 d) :: (d, mgrDict w.params lv tl t1 t2 t3 t4 t5 al ar) :: (al, listOf #[] 0) :: (ar, dictOf [] 0) :: R) →
      (∀ q ∈ R, @Ne Nat q.1 x ∧ @Ne Nat q.1 d ∧ @Ne Nat q.1 al ∧ @Ne Nat q.1 ar) → (ar == sysModules) = false → @Ne Nat d ar → s'.gens = s.gens → s'.os = s.os → Q' .next s') :
   wpAny (model prog w) A (execs ((body.drop 5).take 2) (envOfC qual scope L fa cd)) Q' (fun _ _ => False) s := by
  obtain ⟨rfl, rfl, rfl⟩ := hlaw.eq (by k_is)
  show wpAny _ _ (execs [_, _] _) _ _ _
  have hHB := H
  refine H.openC ?_
  clear H
  intro A₀ base outer env B hA hf hke hh hdp hun X T
  obtain ⟨hd', dp, fr, gd, un⟩ := A
  dsimp only at hA hh hdp hun; subst hh
  clear hlaw
  have f0 : 0 ≤ (numN ns 13).fmod 15 := Int.fmod_nonneg_of_pos _ (by decide)
  have f1 : (numN ns 13).fmod 15 < 15 := Int.fmod_lt_of_pos _ (by decide)
  have fc : (((numN ns 13).fmod 15).toNat : Int) = (numN ns 13).fmod 15 := Int.toNat_of_nonneg (by assumption)
  have dv14 : ((numN ns 13).fmod 15).toNat ≤ 14 := by omega
  replace ret := ret ((numN ns 13).fmod 15).toNat
  rw [fc] at ret
  k_steps
  · rename Fr h₀ L _ _ => F1
    rename News h₀ L _ _ => N1
    refine Stop.mk ?_
    refine' mgr_init10_raw ?hHa ?hFa ?_
    case hHa => exact hHB.le (by omega) (by omega)
    case hFa => exact F1
    intro x d h3 tk3 tl t1 t2 t3 t4 t5 al ar F3 kb ex ed el er nx nd nl nr nlr hsy
    have N3 := led_new F1 nx ex (led_new F1 nd ed (led_new F1 nl el (led_new F1 nr er (News.but N1 kb fun q hq => notin1 (N1 q hq).2.1))))
    have qx := led_ne N1 nx
    have qd := led_ne N1 nd
    have ql := led_ne N1 nl
    have qr := led_ne N1 nr
    have nda : @Ne Nat d ar := fun e => by rw [show d = ar from e, er] at ed; cases ed
    clear N1 F1
    k_steps
    rename Fr h₀ L _ _ => F9
    rename News h₀ L _ _ => N9
    exact ret  x d al ar _ _ _ _ _ _ _ _ _ dv14 (by rename (numN ns 13).fmod 15 = 0 => hz; rw [hz]; rfl) (Fr.law F9 (off_set (by decide) (off_set (by decide) fun z hz => lawM_off hz))) N9 (fun q hq => ⟨qx q hq, qd q hq, ql q hq, qr q hq⟩) hsy nda rfl rfl
  · rename Fr h₀ L _ _ => F1
    rename News h₀ L _ _ => N1
    refine Stop.mk ?_
    refine' mgr_init_raw ?hHb ?hFb ?_
    case hHb => exact hHB.le (by omega) (by omega)
    case hFb => exact F1
    intro x d h3 tk3 t1 t2 t3 t4 t5 al ar F3 kb ex ed el er nx nd nl nr nlr hsy
    have N3 := led_new F1 nx ex (led_new F1 nd ed (led_new F1 nl el (led_new F1 nr er (News.but N1 kb fun q hq => notin1 (N1 q hq).2.1))))
    have qx := led_ne N1 nx
    have qd := led_ne N1 nd
    have ql := led_ne N1 nl
    have qr := led_ne N1 nr
    have nda : @Ne Nat d ar := fun e => by rw [show d = ar from e, er] at ed; cases ed
    clear N1 F1
    k_steps
    rename Fr h₀ L _ _ => F9
    rename News h₀ L _ _ => N9
    exact ret  x d al ar _ _ _ _ _ _ _ _ _ dv14 (by rename (numN ns 13).fmod 15 ≠ 0 => hz; rw [if_neg (by omega)]) (Fr.law F9 (off_set (by decide) (off_set (by decide) fun z hz => lawM_off hz))) N9 (fun q hq => ⟨qx q hq, qd q hq, ql q hq, qr q hq⟩) hsy nda rfl rfl
end
end Mine
namespace Mine
open PyProof.Rows.LCg PyProof.Rows.LCt
section
variable {prog : Program} {w : World} {p : Program} {loose : List Str} {mean : ExcName → Option Value} {mg mb : Str → Option Value}
  {A : Around} {h₀ : Heap} {L : Addr} {m : Str → Option Value} {s : Shared} {Q : Value → Shared → Prop} {E : Value → Shared → Prop}
variable {Q' : Flow → Shared → Prop}
local macro_rules | `(tactic| walk_at "subscriptTail") => `(tactic| (first | ((with_reducible refine' item_pr0 ?_ ?_ ?_); decide; tb_start) | ((with_reducible refine' item_pr1 ?_ ?_ ?_); decide; tb_start)))
local macro_rules | `(tactic| walk_at "exec Assign cons ListComp") => `(tactic| (refine Stop.of ?_))
local macro_rules | `(tactic| walk_at "compareOp NotEq ref ref") => `(tactic| (with_reducible refine stop_cmp ?_))
theorem segD3 {qual : Str} {scope : Scope} {body : List Stmt} {fa : Addr} {cd : Value} {Q' : Flow → Shared → Prop} (hlaw : LawIs w qual scope body) (H : Here w p loose mean mg mb A L h₀ 650 9500) (h1f : ∃ env₁, A.frames = some [env₁]) (hG : AllBare s.gens)
   {la : Addr} {nla : Nat} {ls : List PairR} {lp : PairR} {M : MgrR} {ps1 ps2 : Array Value} {sc k de ot to : Option Value} {ki pi : Int} {t1 t2 : Tok} {o2 o3 : Obj} {R : List (Addr × Obj)}
   (F : Fr h₀ L s.heap (lawM sc (some (.ref la)) k de (some (.int ki t1)) (some (.int pi t2)) ot to none none none none)) (D : LawD prog w h₀ L la nla ls M ps1 ps2 R s.heap) (hlen : ls.length ≤ 20)
   (c2 : (L + 1 + 1, o2) ∈ R) (d2 : o2.data = .cell (some (.ref M.a))) (c3 : (L + 1 + 1 + 1, o3) ∈ R) (d3 : o3.data = .cell (some (.ref lp.x))) (hlp : (lp.x, lp.ob) ∈ R) (h6 : lp.n1 ∈ six ∧ lp.n2 ∈ six)
   (ret : ∀ (M' : MgrR) (la' : Addr) (nla' : Nat) (ls' : List PairR) (ps1' ps2' : Array Value) (s' : Shared), Fr h₀ L s'.heap (lawM sc (some (.ref la')) k de (some (.int ki t1)) (some (.int pi t2)) ot to none none none none) → LawD prog w h₀ L la' nla' ls' M' ps1' ps2' R s'.heap →
      ls'.length ≤ ls.length + 1 → (∀ l ∈ ls', l ∈ ls ∨ l = lp) → M'.a = M.a → M'.lv = M.lv → AllBare s'.gens → s'.os = s.os → Q' .next s') :
   wpAny (model prog w) A (exec (elif2 ((loopOf 3 body)[5]?)) (envOfC qual scope L fa cd)) Q' (fun _ _ => False) s := by
  obtain ⟨rfl, rfl, rfl⟩ := hlaw.eq (by k_is)
  show wpAny _ _ (exec (Stmt.If _ _ _ _) _) _ _ _
  have hHB := H
  refine H.openC ?_
  clear H
  intro A₀ base outer env B hA hf hke hh hdp hun X T
  clear hlaw
  obtain ⟨RR, hRR⟩ : ∃ RR, RR = R ++ M.all w.params := ⟨_, rfl⟩
  have N := D.N
  rw [← hRR] at N
  have N1 := newsSub (news' := (L + 1 + 1, o2) :: (L + 1 + 1 + 1, o3) :: (la, lsOb ls nla) :: (742, tabObj ps1) :: (906, tabObj ps2) :: RR) N (List.forall_mem_cons.mpr ⟨.tail _ (.tail _ (.tail _ (hRR ▸ List.mem_append_left _ c2))), List.forall_mem_cons.mpr ⟨.tail _ (.tail _ (.tail _ (hRR ▸ List.mem_append_left _ c3))), fun q hq => hq⟩⟩)
  have aRR : ∀ q ∈ R, q ∈ RR := fun q hq => hRR ▸ List.mem_append_left _ hq
  have mRR : ∀ q ∈ M.all w.params, q ∈ RR := fun q hq => hRR ▸ List.mem_append_right _ hq
  have ba : h₀.get? M.a = some (instObj 929 M.d) ∨ (M.a, instObj 929 M.d) ∈ RR := .inr (mRR _ (.head _))
  have bd : h₀.get? M.d = some (mgrDict w.params M.lv M.tl M.u1 M.u2 M.u3 M.u4 M.u5 M.al M.ar) ∨ (M.d, mgrDict w.params M.lv M.tl M.u1 M.u2 M.u3 M.u4 M.u5 M.al M.ar) ∈ RR := .inr (mRR (M.d, M.dob w.params) (.tail _ (.head _)))
  have blp : h₀.get? lp.x = some lp.ob ∨ (lp.x, lp.ob) ∈ RR := .inr (aRR _ hlp)
  clear N
  k_steps
  rotate_left
  · exact ret M la nla ls ps1 ps2 _ F D (by omega) (fun l hl => .inl hl) rfl rfl hG rfl
  refine Stop.mk ?_
  have n906 : @Ne Nat 906 742 := by decide
  have off906 : 906 ∉ L :: 742 :: M.muts := fun q => by
    rcases List.mem_cons.mp q with q | q
    · exact (D.N _ (.tail _ (.tail _ (.head _)))).2.1 q
    rcases List.mem_cons.mp q with q | q
    · exact n906 q
    · obtain ⟨p, hp, e⟩ := M.muts_all (P := w.params) _ q
      exact D.dis _ (.tail _ (.tail _ (.head _))) p hp e.symm
  refine' delete_linkM ?dH h1f ?dF ?dG D.tr1 D.O ?dI ?dOff ?dSz ?dLs D.sync D.lok ?dK ?dN ?_
  case dH => exact hHB.le (by omega) (by omega)
  case dF => exact F
  case dG => exact hG
  case dI => exact D.In
  case dOff => exact fun p hp => (D.N p (.tail _ (.tail _ (.tail _ (List.mem_append_right _ hp))))).2.1
  case dSz => have := D.roles; omega
  case dLs => have := D.links; omega
  case dK => exact ⟨six_ok _ h6.1, six_ok _ h6.2⟩
  case dN =>
    refine newsSub D.N fun q hq => ?_
    refine memc hq ?_ fun hq => ?_
    · exact .tail _ (.tail _ (.tail _ (List.mem_append_right _ (.tail _ (.tail _ (.head _))))))
    refine memc hq ?_ fun hq => ?_
    · exact .tail _ (.tail _ (.tail _ (List.mem_append_right _ (.tail _ (.tail _ (.tail _ (.head _)))))))
    refine memc hq ?_ fun hq => ?_
    · exact .tail _ (.head _)
    · exact .tail _ (.tail _ (.tail _ (List.mem_append_right _ (MgrR.dic_all q hq))))
  intro M' s' ps1' O' I' hp' hl' hE hn' hlk hln F' kb new e742 tr' hG' os'
  have e906 : s'.heap.get? 906 = some (tabObj ps2) := kb _ _ off906 (D.N _ (.tail _ (.tail _ (.head _)))).1
  obtain ⟨N2, dis2⟩ := D.step F kb (fun b hb => by
    rcases List.mem_cons.mp hb with hb | hb
    · exact .inl hb
    rcases List.mem_cons.mp hb with hb | hb
    · exact .inr (.inl hb)
    · exact .inr (.inr (.inr (M.muts_all _ hb)))) I' new e742 e906
  clear N1 ba bd blp F mRR aRR hRR
  clear RR
  obtain ⟨RR, hRR⟩ : ∃ RR, RR = R ++ M'.all w.params := ⟨_, rfl⟩
  rw [← hRR] at N2
  have aRR : ∀ q ∈ R, q ∈ RR := fun q hq => hRR ▸ List.mem_append_left _ hq
  have N3 := newsSub (news' := (L + 1 + 1 + 1, o3) :: (la, lsOb ls nla) :: (742, tabObj ps1') :: (906, tabObj ps2) :: RR) N2 (List.forall_mem_cons.mpr ⟨.tail _ (.tail _ (.tail _ (aRR _ c3))), fun q hq => hq⟩)
  clear N2
  obtain ⟨hs', gs', ds', tks', oss'⟩ := s'
  dsimp only at *
  k_steps
  refine Stop.mk ?_
  refine' Assign_ListComp_Z (α := PairR) ?z0 ?z1 ?z2 ?z3 ?z4 ?z5 ?z7 ?z8 ?_ ?z6
  case z0 => with_unfolding_all rfl
  case z1 => with_unfolding_all rfl
  case z2 => decide
  case z3 => rfl
  case z4 => decide
  case z5 => with_unfolding_all rfl
  case z7 => with_unfolding_all rfl
  case z8 => with_unfolding_all rfl
  case z6 => intro _; with_unfolding_all rfl
  have hlsN : ∀ l ∈ ls, (l.x, l.ob) ∈ RR := fun l hl => aRR _ (D.hls l hl)
  have lpN : (lp.x, lp.ob) ∈ RR := aRR _ hlp
  k_steps
  refine Stop.mk ⟨la, ls, fun l => Value.ref l.x, fun l => decide (l.pr ≠ lp.pr), fun l => Value.ref l.x, _, rfl, F'.ns, ⟨_, News.get N3 (.tail _ (.head _)), rfl, _, rfl⟩, ?_, hh, ?_, ?_, ?_⟩
  · rw [sizeLine_eq]; omega
  · intro i l C m₂ h5 tk5 hl k5 hC hn ma
    have hl := List.mem_of_getElem? hl
    obtain ⟨oC2, eC, nC⟩ := ns_obj hn
    have N5 := news_cons (p := (C, oC2)) eC (Fr.neOf F' hC) (none_of_keep F'.keep hC) (N3.grown k5)
    have F5 := F'.keeps k5
    refine wpAny_tests_one ?_
    have bl : h5.get? l.x = some l.ob := (N5 _ (.tail _ (.tail _ (.tail _ (.tail _ (.tail _ (hlsN l hl))))))).1
    have blp : h5.get? lp.x = some lp.ob := (N5 _ (.tail _ (.tail _ (.tail _ (.tail _ (.tail _ lpN)))))).1
    clear N3 F'
    k_steps
    refine Stop.mk ?_
    refine' pair_ne (x := l) (y := lp) ?p1 ?p2 ?p3 ?p4 ?p5 ?_
    case p1 => exact bl
    case p2 => exact blp
    case p3 => exact D.okl l hl
    case p4 => exact ⟨six_ok _ h6.1, six_ok _ h6.2⟩
    case p5 => k_units
    k_steps
    exact Keep.refl _
  · intro i l C m₂ h5 tk5 hl hz k5 hC hn ma
    have hl := List.mem_of_getElem? hl
    obtain ⟨oC2, eC, nC⟩ := ns_obj hn
    have N5 := news_cons (p := (C, oC2)) eC (Fr.neOf F' hC) (none_of_keep F'.keep hC) (N3.grown k5)
    have F5 := F'.keeps k5
    clear N3 F'
    k_steps
    exact Stop.mk ⟨rfl, _, _, rfl, Keep.refl _⟩
  · intro D5 h5 tk5 k5 hD5 eD5 hn5
    show wpAny _ _ (execs [] _) Q' _ _
    have kb5 : KeepBut [L] hs' h5 := fun b o hb e => k5 b o (fun q => hb (List.mem_singleton.mpr q)) e
    have F5 : Fr h₀ L h5 (fun z => if z = ("links" : Str) then some (.ref D5) else lawM sc (some (.ref la)) k de (some (.int ki t1)) (some (.int pi t2)) ot to none none none none z) :=
      ⟨hn5, fun b o e => kb5 b o (notin1 (fun q => by rw [show b = L from q, fr_none F'] at e; cases e)) (F'.keep b o e), F'.above⟩
    have D' : LawD prog w h₀ L D5 ((ls.filter fun l => decide (l.pr ≠ lp.pr)).map fun l => Value.ref l.x).length (ls.filter fun l => decide (l.pr ≠ lp.pr)) M' ps1' ps2 R h5 :=
      LawD.fresh (newsSub N3 fun q hq => .tail _ (by rw [hRR]; exact hq)) dis2 O' F' (fun q hq => (D.Rla q hq).2) (fun l hl => D.hls l (List.mem_filter.mp hl).1) (by rw [hp', D.pairs, cut_pr]) (hl'.trans hp'.symm) (by rw [hn']; exact D.names)
        (fun l hl => D.six l (List.mem_filter.mp hl).1) tr' D.tr2 hD5 eD5 kb5
    clear N3
    k_steps
    exact ret M' D5 _ _ ps1' ps2 _ (Fr.law F5 (off_set (by decide) fun z hz => lawM_off hz)) D' (Nat.le_succ_of_le (List.length_filter_le _ _)) (fun l hl => .inl (List.mem_filter.mp hl).1) hE.1 hE.2.2.2.2 hG' os'
end
end Mine
namespace Mine
open PyProof.Rows.LCg PyProof.Rows.LCt
section
variable {prog : Program} {w : World} {p : Program} {loose : List Str} {mean : ExcName → Option Value} {mg mb : Str → Option Value}
  {A : Around} {h₀ : Heap} {L : Addr} {m : Str → Option Value} {s : Shared} {Q : Value → Shared → Prop} {E : Value → Shared → Prop}
variable {Q' : Flow → Shared → Prop}
local macro_rules | `(tactic| walk_at "exec If") => `(tactic| (k_here; (with_reducible show wpAny _ _ (exec (Stmt.If (Expr.Compare _ _ _ _) _ _ _) _) _ _ _); refine Stop.of ?_))
theorem segD2 {qual : Str} {scope : Scope} {body : List Stmt} {fa : Addr} {cd : Value} {Q' : Flow → Shared → Prop} (hlaw : LawIs w qual scope body) (H : Here w p loose mean mg mb A L h₀ 650 9500) (h1f : ∃ env₁, A.frames = some [env₁]) (hG : AllBare s.gens)
   {la : Addr} {nla : Nat} {ls : List PairR} {lp : PairR} {M : MgrR} {ps1 ps2 : Array Value} {sc k de ot to : Option Value} {ki pi : Int} {t1 t2 : Tok} {o2 o3 : Obj} {R : List (Addr × Obj)}
   (F : Fr h₀ L s.heap (lawM sc (some (.ref la)) k de (some (.int ki t1)) (some (.int pi t2)) ot to none none none none)) (D : LawD prog w h₀ L la nla ls M ps1 ps2 R s.heap) (hlen : ls.length ≤ 20)
   (c2 : (L + 1 + 1, o2) ∈ R) (d2 : o2.data = .cell (some (.ref M.a))) (c3 : (L + 1 + 1 + 1, o3) ∈ R) (d3 : o3.data = .cell (some (.ref lp.x))) (hlp : (lp.x, lp.ob) ∈ R) (h6 : lp.n1 ∈ six ∧ lp.n2 ∈ six)
   (ret : ∀ (M' : MgrR) (la' : Addr) (nla' : Nat) (ls' : List PairR) (ps1' ps2' : Array Value) (s' : Shared), Fr h₀ L s'.heap (lawM sc (some (.ref la')) k de (some (.int ki t1)) (some (.int pi t2)) ot to none none none none) → LawD prog w h₀ L la' nla' ls' M' ps1' ps2' R s'.heap →
      ls'.length ≤ ls.length + 1 → (∀ l ∈ ls', l ∈ ls ∨ l = lp) → M'.a = M.a → M'.lv = M.lv → AllBare s'.gens → s'.os = s.os → Q' .next s') :
   wpAny (model prog w) A (exec (elif1 ((loopOf 3 body)[5]?)) (envOfC qual scope L fa cd)) Q' (fun _ _ => False) s := by
  have hl0 := hlaw
  obtain ⟨rfl, rfl, rfl⟩ := hlaw.eq (by k_is)
  show wpAny _ _ (exec (Stmt.If _ _ _ _) _) _ _ _
  have hHB := H
  refine H.openC ?_
  clear H
  intro A₀ base outer env B hA hf hke hh hdp hun X T
  obtain ⟨RR, hRR⟩ : ∃ RR, RR = R ++ M.all w.params := ⟨_, rfl⟩
  have N := D.N
  rw [← hRR] at N
  have N1 := newsSub (news' := (L + 1 + 1, o2) :: (L + 1 + 1 + 1, o3) :: (la, lsOb ls nla) :: (742, tabObj ps1) :: (906, tabObj ps2) :: RR) N (List.forall_mem_cons.mpr ⟨.tail _ (.tail _ (.tail _ (hRR ▸ List.mem_append_left _ c2))), List.forall_mem_cons.mpr ⟨.tail _ (.tail _ (.tail _ (hRR ▸ List.mem_append_left _ c3))), fun q hq => hq⟩⟩)
  have aRR : ∀ q ∈ R, q ∈ RR := fun q hq => hRR ▸ List.mem_append_left _ hq
  have mRR : ∀ q ∈ M.all w.params, q ∈ RR := fun q hq => hRR ▸ List.mem_append_right _ hq
  have ba : h₀.get? M.a = some (instObj 929 M.d) ∨ (M.a, instObj 929 M.d) ∈ RR := .inr (mRR _ (.head _))
  have bd : h₀.get? M.d = some (mgrDict w.params M.lv M.tl M.u1 M.u2 M.u3 M.u4 M.u5 M.al M.ar) ∨ (M.d, mgrDict w.params M.lv M.tl M.u1 M.u2 M.u3 M.u4 M.u5 M.al M.ar) ∈ RR := .inr (mRR (M.d, M.dob w.params) (.tail _ (.head _)))
  have blp : h₀.get? lp.x = some lp.ob ∨ (lp.x, lp.ob) ∈ RR := .inr (aRR _ hlp)
  clear N
  k_steps
  rotate_left
  iterate 2
    · clear N1 ba bd blp aRR mRR hRR
      clear RR
      refine Stop.mk ?_
      refine' segD3 (R := R) hl0 hHB h1f ?gG ?gF ?gD hlen c2 d2 c3 d3 hlp h6 ?_
      case gG => exact hG
      case gF => exact F
      case gD => exact D
      intro M' la' nla' ls' ps1' ps2' s' F' D' a1 a2 a3 a4 a5 a6
      clear D F hl0
      k_steps
      exact ret M' la' nla' ls' ps1' ps2' _ F' D' a1 a2 a3 a4 a5 a6
  clear hl0
  refine Stop.mk ?_
  refine' clearM ?dH ?dF D.O ?dI ?dN ?_
  case dH => exact hHB.le (by omega) (by omega)
  case dF => exact F
  case dI => exact D.In
  case dN => exact newsSub D.N fun q hq => by rw [List.mem_singleton.mp hq]; exact .tail _ (.tail _ (.tail _ (List.mem_append_right _ (.tail _ (.head _)))))
  intro h1 tk1 al ar e1 e2 e3 nar hsy nal' nar' kb
  have ia := D.In.a
  have nad : @Ne Nat M.a M.d := ne_of_obj ia D.In.d (by simp [MgrR.dob])
  have O' : (M.cleared al ar).Ok prog w := MgrR.cleared_ok hsy (fun q => by have := D.In.d; rw [show M.d = ar from q, nar'] at this; cases this) h1
  have I' : (M.cleared al ar).In w.params h1 := fun p hp => by
    rw [MgrR.cleared_all] at hp
    refine memc hp ?_ fun hp => ?_
    · exact kb _ _ (notin1 nad) ia
    refine memc hp ?_ fun hp => ?_
    · exact e1
    refine memc hp ?_ fun hp => ?_
    · exact e2
    · rw [List.mem_singleton.mp hp]; exact e3
  have nw : ∀ p ∈ (M.cleared al ar).all w.params, (∃ o, (p.1, o) ∈ M.all w.params) ∨ s.heap.get? p.1 = none := fun p hp => by
    rw [MgrR.cleared_all] at hp
    refine memc hp ?_ fun hp => ?_
    · exact .inl ⟨_, .head _⟩
    refine memc hp ?_ fun hp => ?_
    · exact .inl ⟨M.dob w.params, .tail _ (.head _)⟩
    refine memc hp ?_ fun hp => ?_
    · exact .inr nal'
    · rw [List.mem_singleton.mp hp]; exact .inr nar'
  have key : ∀ {b : Addr} {o : Obj}, (b, o) ∈ (la, lsOb ls nla) :: (742, tabObj ps1) :: (906, tabObj ps2) :: R → b ∉ [M.d] := fun hb => notin1 (D.dis _ hb (M.d, M.dob w.params) (.tail _ (.head _)))
  obtain ⟨N2, dis2⟩ := D.step F kb (fun b hb => .inr (.inr (.inr ⟨(M.d, M.dob w.params), .tail _ (.head _), (List.mem_singleton.mp hb).symm⟩))) I' nw (kb _ _ (key (.tail _ (.head _))) (D.N _ (.tail _ (.head _))).1) (kb _ _ (key (.tail _ (.tail _ (.head _)))) (D.N _ (.tail _ (.tail _ (.head _)))).1)
  have F1 : Fr h₀ L h1 _ := Fr.but F kb (notin1 (D.N (M.d, M.dob w.params) (.tail _ (.tail _ (.tail _ (List.mem_append_right _ (.tail _ (.head _))))))).2.1.symm) fun b hb => by rw [List.mem_singleton.mp hb]; exact (D.N (M.d, M.dob w.params) (.tail _ (.tail _ (.tail _ (List.mem_append_right _ (.tail _ (.head _))))))).2.2
  clear N1 ba bd blp F mRR aRR hRR
  clear RR
  obtain ⟨RR, hRR⟩ : ∃ RR, RR = R ++ (M.cleared al ar).all w.params := ⟨_, rfl⟩
  rw [← hRR] at N2
  k_steps
  rename Fr h₀ L _ _ => F9
  rename News h₀ L _ _ => N9
  rename (_ ∧ _ ∧ _ ∧ AllLt _ _) => l9
  have rne := allLt_all l9.2.2.2
  rw [hRR] at rne
  refine ret (M.cleared al ar) _ 0 [] ps1 ps2 _ (Fr.law F9 (off_set (by decide) fun z hz => lawM_off hz)) ⟨newsSub N9 ?_, O', ?_, ?_, fun l hl => (nomatch hl), rfl, rfl, fun n hn => (nomatch hn), fun l hl => (nomatch hl), D.tr1, D.tr2⟩ (Nat.zero_le _) (fun l hl => (nomatch hl)) rfl rfl hG rfl
  · refine List.forall_mem_cons.mpr ⟨.head _, fun q hq => .tail _ (.tail _ ?_)⟩
    rw [hRR]; exact hq
  · refine List.forall_mem_cons.mpr ⟨fun p hp => (rne p (List.mem_append_right _ hp)).symm, fun q hq => dis2 q (.tail _ hq)⟩
  · exact fun q hq => ⟨rne q (List.mem_append_left _ hq), (D.Rla q hq).2⟩
end
end Mine
namespace Mine
open PyProof.Rows.LCg PyProof.Rows.LCt
section
variable {prog : Program} {w : World} {p : Program} {loose : List Str} {mean : ExcName → Option Value} {mg mb : Str → Option Value}
  {A : Around} {h₀ : Heap} {L : Addr} {m : Str → Option Value} {s : Shared} {Q : Value → Shared → Prop} {E : Value → Shared → Prop}
variable {Q' : Flow → Shared → Prop}
local macro_rules | `(tactic| walk_at "subscriptTail") => `(tactic| (first | ((with_reducible refine' item_pr0 ?_ ?_ ?_); decide; tb_start) | ((with_reducible refine' item_pr1 ?_ ?_ ?_); decide; tb_start)))
local macro_rules | `(tactic| walk_at "exec If") => `(tactic| (k_here; (with_reducible show wpAny _ _ (exec (Stmt.If (Expr.BoolOp _ (Expr.Compare _ [CmpOp.Eq] _ _ :: _) _) _ _ _) _) _ _ _); refine Stop.of ?_))
local macro_rules | `(tactic| walk_at "compareOp NotIn ref ref") => `(tactic| (with_reducible refine stop_cmp ?_))
theorem segD1 {qual : Str} {scope : Scope} {body : List Stmt} {fa : Addr} {cd : Value} {Q' : Flow → Shared → Prop} (hlaw : LawIs w qual scope body) (H : Here w p loose mean mg mb A L h₀ 650 9500) (h1f : ∃ env₁, A.frames = some [env₁]) (hG : AllBare s.gens)
   {la : Addr} {nla : Nat} {ls : List PairR} {lp : PairR} {M : MgrR} {ps1 ps2 : Array Value} {sc k de ot to : Option Value} {ki pi : Int} {t1 t2 : Tok} {o2 o3 : Obj} {R : List (Addr × Obj)}
   (F : Fr h₀ L s.heap (lawM sc (some (.ref la)) k de (some (.int ki t1)) (some (.int pi t2)) ot to none none none none)) (D : LawD prog w h₀ L la nla ls M ps1 ps2 R s.heap) (hlen : ls.length ≤ 20)
   (c2 : (L + 1 + 1, o2) ∈ R) (d2 : o2.data = .cell (some (.ref M.a))) (c3 : (L + 1 + 1 + 1, o3) ∈ R) (d3 : o3.data = .cell (some (.ref lp.x))) (hlp : (lp.x, lp.ob) ∈ R) (h6 : lp.n1 ∈ six ∧ lp.n2 ∈ six)
   (ret : ∀ (M' : MgrR) (la' : Addr) (nla' : Nat) (ls' : List PairR) (ps1' ps2' : Array Value) (s' : Shared), Fr h₀ L s'.heap (lawM sc (some (.ref la')) k de (some (.int ki t1)) (some (.int pi t2)) ot to none none none none) → LawD prog w h₀ L la' nla' ls' M' ps1' ps2' R s'.heap →
      ls'.length ≤ ls.length + 1 → (∀ l ∈ ls', l ∈ ls ∨ l = lp) → M'.a = M.a → M'.lv = M.lv → AllBare s'.gens → s'.os = s.os → Q' .next s') :
   wpAny (model prog w) A (execs (((loopOf 3 body).drop 5).take 1) (envOfC qual scope L fa cd)) Q' (fun _ _ => False) s := by
  have hl0 := hlaw
  obtain ⟨rfl, rfl, rfl⟩ := hlaw.eq (by k_is)
  show wpAny _ _ (execs [_] _) _ _ _
  have hHB := H
  refine H.openC ?_
  clear H
  intro A₀ base outer env B hA hf hke hh hdp hun X T
  obtain ⟨RR, hRR⟩ : ∃ RR, RR = R ++ M.all w.params := ⟨_, rfl⟩
  have N := D.N
  rw [← hRR] at N
  have N1 := newsSub (news' := (L + 1 + 1, o2) :: (L + 1 + 1 + 1, o3) :: (la, lsOb ls nla) :: (742, tabObj ps1) :: (906, tabObj ps2) :: RR) N (List.forall_mem_cons.mpr ⟨.tail _ (.tail _ (.tail _ (hRR ▸ List.mem_append_left _ c2))), List.forall_mem_cons.mpr ⟨.tail _ (.tail _ (.tail _ (hRR ▸ List.mem_append_left _ c3))), fun q hq => hq⟩⟩)
  have aRR : ∀ q ∈ R, q ∈ RR := fun q hq => hRR ▸ List.mem_append_left _ hq
  have mRR : ∀ q ∈ M.all w.params, q ∈ RR := fun q hq => hRR ▸ List.mem_append_right _ hq
  have ba : h₀.get? M.a = some (instObj 929 M.d) ∨ (M.a, instObj 929 M.d) ∈ RR := .inr (mRR _ (.head _))
  have bd : h₀.get? M.d = some (mgrDict w.params M.lv M.tl M.u1 M.u2 M.u3 M.u4 M.u5 M.al M.ar) ∨ (M.d, mgrDict w.params M.lv M.tl M.u1 M.u2 M.u3 M.u4 M.u5 M.al M.ar) ∈ RR := .inr (mRR (M.d, M.dob w.params) (.tail _ (.head _)))
  have blp : h₀.get? lp.x = some lp.ob ∨ (lp.x, lp.ob) ∈ RR := .inr (aRR _ hlp)
  clear N
  k_steps
  rotate_left
  · rename Fr h₀ L _ _ => F8
    clear N1 ba bd blp aRR mRR hRR
    clear RR
    refine Stop.mk ?_
    refine' segD2 (R := R) hl0 hHB h1f ?gG ?gF ?gD hlen c2 d2 c3 d3 hlp h6 ?_
    case gG => exact hG
    case gF => exact F8
    case gD => exact D
    intro M' la' nla' ls' ps1' ps2' s' F' D' a1 a2 a3 a4 a5 a6
    clear D F8 hl0
    k_steps
    exact ret M' la' nla' ls' ps1' ps2' _ F' D' a1 a2 a3 a4 a5 a6
  refine Stop.mk ?_
  have okp : okPr lp.pr := ⟨six_ok _ h6.1, six_ok _ h6.2⟩
  refine' pair_notIn (x := lp) ?n1 ?n2 ?n3 ?n4 ?n5 ?n6 ?_
  case n1 => exact (D.N _ (.head _)).1
  case n2 => exact fun l hl => (D.N (l.x, l.ob) (.tail _ (.tail _ (.tail _ (List.mem_append_left _ (D.hls l hl)))))).1
  case n3 => exact (D.N (lp.x, lp.ob) (.tail _ (.tail _ (.tail _ (List.mem_append_left _ hlp))))).1
  case n4 => exact D.okl
  case n5 => exact okp
  case n6 => k_units
  k_steps
  rotate_left
  · rename Fr h₀ L _ _ => F8
    clear N1 ba bd blp aRR mRR hRR
    clear RR
    refine Stop.mk ?_
    refine' segD2 (R := R) hl0 hHB h1f ?gG ?gF ?gD hlen c2 d2 c3 d3 hlp h6 ?_
    case gG => exact hG
    case gF => exact F8
    case gD => exact D
    intro M' la' nla' ls' ps1' ps2' s' F' D' a1 a2 a3 a4 a5 a6
    clear D F8 hl0
    k_steps
    exact ret M' la' nla' ls' ps1' ps2' _ F' D' a1 a2 a3 a4 a5 a6
  clear hl0
  rename (¬ _ ∈ List.map _ _) => hni
  refine Stop.mk ?_
  refine' add_linkM ?dH ?dF D.O ?dI ?dSz ?dLs ?dNew ?dN ?_
  case dH => exact hHB.le (by omega) (by omega)
  case dF => exact F
  case dI => exact D.In
  case dSz => have := D.roles; omega
  case dLs => have := D.links; omega
  case dNew => rw [D.pairs]; exact hni
  case dN =>
    refine newsSub D.N fun q hq => ?_
    refine memc hq ?_ fun hq => ?_
    · exact .tail _ (.tail _ (.tail _ (List.mem_append_right _ (.tail _ (.tail _ (.head _))))))
    refine memc hq ?_ fun hq => ?_
    · exact .tail _ (.tail _ (.tail _ (List.mem_append_right _ (.tail _ (.tail _ (.tail _ (.head _)))))))
    · exact .tail _ (.tail _ (.tail _ (List.mem_append_right _ (MgrR.dic_all q hq))))
  intro M' h1 tk1 O' I' hp' hl' hE hll hnm kb nw
  have key : ∀ {b : Addr} {o : Obj}, (b, o) ∈ (la, lsOb ls nla) :: (742, tabObj ps1) :: (906, tabObj ps2) :: R → b ∉ M.muts := fun hb hq => by
    obtain ⟨p, hp, e⟩ := M.muts_all (P := w.params) _ hq
    exact D.dis _ hb p hp e.symm
  obtain ⟨N2, dis2⟩ := D.step F kb (fun b hb => .inr (.inr (.inr (M.muts_all _ hb)))) I' nw (kb _ _ (key (.tail _ (.head _))) (D.N _ (.tail _ (.head _))).1) (kb _ _ (key (.tail _ (.tail _ (.head _)))) (D.N _ (.tail _ (.tail _ (.head _)))).1)
  have mnew : ∀ b ∈ M.muts, @Ne Nat b L ∧ h₀.get? b = none := fun b hb => by
    obtain ⟨p, hp, rfl⟩ := M.muts_all (P := w.params) _ hb
    exact (D.N p (.tail _ (.tail _ (.tail _ (List.mem_append_right _ hp))))).2
  have F1 : Fr h₀ L h1 _ := Fr.but F kb (fun q => (mnew L q).1 rfl) fun b hb => (mnew b hb).2
  clear N1 ba bd blp F mRR aRR hRR
  clear RR
  obtain ⟨RR, hRR⟩ : ∃ RR, RR = R ++ M'.all w.params := ⟨_, rfl⟩
  rw [← hRR] at N2
  unfold lsOb at N2
  have N3 := newsSub (news' := (L + 1 + 1 + 1, o3) :: (la, listOf (ls.map fun l => Value.ref l.x).toArray nla) :: (742, tabObj ps1) :: (906, tabObj ps2) :: RR) N2 (List.forall_mem_cons.mpr ⟨.tail _ (.tail _ (.tail _ (hRR ▸ List.mem_append_left _ c3))), fun q hq => hq⟩)
  clear N2
  have la3 : @Ne Nat la (L + 1 + 1 + 1) := ((D.Rla _ c3).1).symm
  have n73 : @Ne Nat la 742 := ne_of_obj (D.N _ (.head _)).1 (D.N _ (.tail _ (.head _))).1 (by simp [lsOb])
  have n93 : @Ne Nat la 906 := ne_of_obj (D.N _ (.head _)).1 (D.N _ (.tail _ (.tail _ (.head _)))).1 (by simp [lsOb])
  have nRR : ∀ q ∈ RR, @Ne Nat q.1 la := fun q hq => by
    rw [hRR] at hq
    rcases List.mem_append.mp hq with hq | hq
    · exact (D.Rla q hq).1
    · exact (dis2 _ (.head _) q hq).symm
  k_steps
  rename Fr h₀ L _ _ => F9
  rename News h₀ L _ _ => N9
  rw [lsOb_push] at N9
  refine ret M' la (nla + 1) (ls ++ [lp]) ps1 ps2 _ F9 ⟨newsSub N9 ?_, O', ?_, D.Rla, ?_, ?_, hl'.trans ((congrArg (· ++ [(lp.n1, lp.n2)]) D.sync).trans hp'.symm), ?_, ?_, D.tr1, D.tr2⟩ ?_ (fun l hl => (List.mem_append.mp hl).imp id List.mem_singleton.mp) hE.1 hE.2.2.2.2 hG rfl
  · intro q hq
    rw [hRR]; exact .tail _ hq
  · exact List.forall_mem_cons.mpr ⟨dis2 (la, lsOb ls nla) (.head _), fun q hq => dis2 q (.tail _ hq)⟩
  · intro l hl
    rcases List.mem_append.mp hl with hl | hl
    · exact D.hls l hl
    · rw [List.mem_singleton.mp hl]; exact hlp
  · rw [hp', D.pairs, List.map_append]; rfl
  · intro n hn
    rcases hnm n hn with h | rfl | rfl
    · exact D.names n h
    · exact h6.1
    · exact h6.2
  · intro l hl
    rcases List.mem_append.mp hl with hl | hl
    · exact D.six l hl
    · rw [List.mem_singleton.mp hl]; exact h6
  · rw [List.length_append]; exact Nat.le_refl _
end
end Mine
namespace Mine
open PyProof.Rows.LCg PyProof.Rows.LCt
section
variable {prog : Program} {w : World} {p : Program} {loose : List Str} {mean : ExcName → Option Value} {mg mb : Str → Option Value}
  {A : Around} {h₀ : Heap} {L : Addr} {m : Str → Option Value} {s : Shared} {Q : Value → Shared → Prop} {E : Value → Shared → Prop}
variable {Q' : Flow → Shared → Prop}
local macro_rules | `(tactic| walk_at "compareOp In str ref") => `(tactic| (k_dflt (refine in_strs at_1 ?_)))
theorem segE {qual : Str} {scope : Scope} {body : List Stmt} {fa : Addr} {cd : Value} {Q' : Flow → Shared → Prop} (hlaw : LawIs w qual scope body) (H : Here w p loose mean mg mb A L h₀ 650 9500) (hG : AllBare s.gens)
   {la : Addr} {nla : Nat} {ls : List PairR} {M : MgrR} {ps1 ps2 : Array Value} {sc k de ki ot to : Option Value} {pi : Int} {t2 tl : Tok} {lv : Nat} {o1 o2 o4 : Obj} {v4 : Option Value} {R : List (Addr × Obj)}
   (F : Fr h₀ L s.heap (lawM sc (some (.ref la)) k de ki (some (.int pi t2)) ot to none none none none)) (D : LawD prog w h₀ L la nla ls M ps1 ps2 ((L + 1 + 1 + 1 + 1, o4) :: R) s.heap) (d4 : o4.data = .cell v4) (h4 : ∀ q ∈ R, @Ne Nat q.1 (L + 1 + 1 + 1 + 1)) (hlen : ls.length ≤ 20)
   (hlsR : ∀ l ∈ ls, (l.x, l.ob) ∈ R) (c1 : (L + 1, o1) ∈ R) (d1 : o1.data = .cell (some (.int (lv : Int) tl))) (c2 : (L + 1 + 1, o2) ∈ R) (d2 : o2.data = .cell (some (.ref M.a))) (hlv : M.lv = (lv : Int)) (hlv6 : lv ≤ 14)
   (ret : ∀ (M' : MgrR) (ps2' : Array Value) (o4' : Obj) (v4' ot' to' : Option Value) (s' : Shared), Fr h₀ L s'.heap (lawM sc (some (.ref la)) k de ki (some (.int pi t2)) ot' to' none none none none) → LawD prog w h₀ L la nla ls M' ps1 ps2' ((L + 1 + 1 + 1 + 1, o4') :: R) s'.heap → o4'.data = .cell v4' →
      M'.a = M.a → M'.lv = M.lv → AllBare s'.gens → s'.os = s.os → Q' .next s') :
   wpAny (model prog w) A (execs ((loopOf 3 body).drop 6) (envOfC qual scope L fa cd)) Q' (fun _ _ => False) s := by
  obtain ⟨rfl, rfl, rfl⟩ := hlaw.eq (by k_is)
  show wpAny _ _ (execs [_, _, _] _) _ _ _
  have hHB := H
  refine H.openC ?_
  clear H
  intro A₀ base outer env B hA hf hke hh hdp hun X T
  obtain ⟨hd', dp, fr, gd, un⟩ := A
  dsimp only at hA hh hdp hun; subst hh
  clear hlaw
  obtain ⟨RR, hRR⟩ : ∃ RR, RR = (la, lsOb ls nla) :: (742, tabObj ps1) :: (906, tabObj ps2) :: (R ++ M.all w.params) := ⟨_, rfl⟩
  have nRR : ∀ q ∈ RR, @Ne Nat q.1 (L + 1 + 1 + 1 + 1) := hRR ▸ D.off h4
  have aRR : ∀ q ∈ R, q ∈ RR := fun q hq => hRR ▸ .tail _ (.tail _ (.tail _ (List.mem_append_left _ hq)))
  have mRR : ∀ q ∈ M.all w.params, q ∈ RR := fun q hq => hRR ▸ .tail _ (.tail _ (.tail _ (List.mem_append_right _ hq)))
  have N1 : News h₀ L s.heap ((L + 1 + 1 + 1 + 1, o4) :: (L + 1, o1) :: (L + 1 + 1, o2) :: RR) := newsSub (D.ledger (l0 := [(L + 1 + 1 + 1 + 1, o4), (L + 1, o1), (L + 1 + 1, o2)]) (List.forall_mem_cons.mpr ⟨.head _, List.forall_mem_cons.mpr ⟨.tail _ c1, List.forall_mem_cons.mpr ⟨.tail _ c2, List.forall_mem_nil _⟩⟩⟩)) (by
    rw [hRR]
    exact List.forall_mem_cons.mpr ⟨.head _, List.forall_mem_cons.mpr ⟨.tail _ (.head _), List.forall_mem_cons.mpr ⟨.tail _ (.tail _ (.head _)), List.forall_mem_cons.mpr ⟨.tail _ (.tail _ (.tail _ (.head _))), List.forall_mem_cons.mpr ⟨.tail _ (.tail _ (.tail _ (.tail _ (.head _)))), List.forall_mem_cons.mpr ⟨.tail _ (.tail _ (.tail _ (.tail _ (.tail _ (.head _))))), fun q hq => .tail _ (.tail _ (.tail _ (.tail _ (.tail _ (.tail _ (.tail _ hq))))))⟩⟩⟩⟩⟩⟩)
  have ba : h₀.get? M.a = some (instObj 929 M.d) ∨ (M.a, instObj 929 M.d) ∈ RR := .inr (mRR _ (.head _))
  have bd : h₀.get? M.d = some (mgrDict w.params M.lv M.tl M.u1 M.u2 M.u3 M.u4 M.u5 M.al M.ar) ∨ (M.d, mgrDict w.params M.lv M.tl M.u1 M.u2 M.u3 M.u4 M.u5 M.al M.ar) ∈ RR := .inr (mRR (M.d, M.dob w.params) (.tail _ (.head _)))
  have n1 : @Ne Nat (L + 1) (L + 1 + 1 + 1 + 1) := h4 _ c1
  have n2 : @Ne Nat (L + 1 + 1) (L + 1 + 1 + 1 + 1) := h4 _ c2
  k_steps
  rename Fr h₀ L _ _ => F2
  rename News h₀ L _ _ => N2
  rename (_ = Data.cell (some (Value.str _ _))) => d4'
  rename Obj => o4'
  have D2 := D.recell hlsR (newsSub N2 (List.forall_mem_cons.mpr ⟨.tail _ (.tail _ (.tail _ (.head _))), fun q hq => .tail _ (.tail _ (.tail _ (.tail _ (.tail _ (.tail _ (hRR ▸ hq))))))⟩))
  clear N2 ba bd aRR mRR nRR hRR
  refine Stop.mk ?_
  refine' has_linkM ?dH ?dF ?dG ?dT D2.O ?dI ?dSz hlv ?dk ?dN ?_
  case dH => exact hHB.le (by omega) (by omega)
  case dF => exact F2
  case dG => exact hG
  case dT => exact D2.tr2
  case dI => exact D2.In
  case dSz => have := D2.roles; omega
  case dk => omega
  case dN =>
    refine newsSub D2.N (List.forall_mem_cons.mpr ⟨.tail _ (.tail _ (.tail _ (List.mem_append_right _ (.tail _ (.tail _ (.tail _ (.head _))))))), List.forall_mem_cons.mpr ⟨.tail _ (.tail _ (.head _)), List.forall_mem_nil _⟩⟩)
  intro b o rs s' ps' hb O' I' hrs kb e906 tr' hG' os'
  obtain ⟨D3, F3⟩ := D2.grow F2 O' I' (fun q hq => ⟨by rcases (hrs q hq).1 with e | e <;> (rw [e]; exact nm6_six _), (hrs q hq).2⟩) kb e906 tr'
  clear D2 F2 hrs kb I' O'
  obtain ⟨hs', gs', ds', tks', oss'⟩ := s'
  dsimp only at *
  obtain ⟨RZ, hRZ⟩ : ∃ RR, RR = (la, lsOb ls nla) :: (742, tabObj ps1) :: (906, tabObj ps') :: (((L + 1 + 1 + 1 + 1, o4') :: R) ++ (M.grow o rs).all w.params) := ⟨_, rfl⟩
  have N3 := D3.ledger (l0 := [(L + 1 + 1 + 1 + 1, o4'), (L + 1, o1)]) (List.forall_mem_cons.mpr ⟨.head _, List.forall_mem_cons.mpr ⟨.tail _ c1, List.forall_mem_nil _⟩⟩)
  rw [← hRZ] at N3
  have hla3 := (D3.N _ (.head _)).1
  have hb' : b = (decide (0 < lv) && decide (nm6 ((pi.fdiv 6).fmod 6).toNat ∈ nearN (ls.map PairR.pr) (lv - 1) [nm6 (pi.fmod 6).toNat])) := hb.trans (by rw [D.pairs, hasN_near])
  have fin : ∀ {hx : Heap} {mx : Str → Option Value} {l0 : List (Addr × Obj)} {tkx : Nat}, Fr h₀ L hx mx → (mx "script" = sc ∧ mx "links" = some (.ref la) ∧ mx "k" = k ∧ mx "deed" = de ∧ mx "kind" = ki ∧ mx "pick" = some (.int pi t2) ∧ mx "depth" = none ∧ mx "chain" = none ∧ mx "low" = none ∧ mx "high" = none) → (∀ z, z ∉ lawN → mx z = none) → News h₀ L hx (l0 ++ RZ) → Q' .next { heap := hx, gens := gs', drawn := ds', toks := tkx, os := oss' } := by
    intro hx mx l0 tkx Fx em om Nx
    have Fx' := Fr.law Fx om
    rw [em.1, em.2.1, em.2.2.1, em.2.2.2.1, em.2.2.2.2.1, em.2.2.2.2.2.1, em.2.2.2.2.2.2.1, em.2.2.2.2.2.2.2.1, em.2.2.2.2.2.2.2.2.1, em.2.2.2.2.2.2.2.2.2] at Fx'
    exact ret (M.grow o rs) ps' o4' _ _ _ _ Fx' (D3.at (newsSub Nx fun q hq => List.mem_append_right _ (hRZ ▸ hq))) d4' rfl rfl hG' os'
  k_steps
  · refine Stop.mk ?_
    rename News h₀ L _ _ => N4
    have nz4 : ∀ q ∈ (la, lsOb ls nla) :: (742, tabObj ps1) :: (906, tabObj ps') :: (((L + 1 + 1 + 1 + 1, o4') :: R) ++ (M.grow o rs).all w.params), q ∈ [(L + 1 + 1 + 1 + 1, o4'), (L + 1, o1)] ++ RZ := fun q hq => List.mem_append_right _ (hRZ ▸ hq)
    refine' law_near_led (ls := ls) ?lH ?lF ?lN ?la ?lb ?lc ?ld ?le ?_
    case lH => exact hHB
    case lF => assumption
    case lN => exact N4
    case la => exact (N4 _ (nz4 _ (.head _))).1
    case lb => exact fun l hl => (N4 _ (nz4 (l.x, l.ob) (.tail _ (.tail _ (.tail _ (List.mem_append_left _ (.tail _ (hlsR l hl)))))))).1
    case lc => omega
    case ld => omega
    case le => omega
    intro D5 nv n5 h5 tk5 hnv F5 N5 off5 n5' k5
    clear n5' k5 N4
    rename (0 < (lv : Int)) => hlv0
    have e1 : ((lv : Int) - 1).toNat = lv - 1 := ar_lv lv
    rw [e1] at hnv
    have hb2 : b = decide (nm6 ((pi.fdiv 6).fmod 6).toNat ∈ nv.map (·.1)) := by rw [hb', hnv, decide_eq_true (by omega : 0 < lv), Bool.true_and]
    dsimp only
    k_steps
    · rename (_ != _) = true => hx
      rw [hb2] at hx; simp at hx
    · rename Fr h₀ L _ _ => F9
      rename News h₀ L _ _ => N9
      exact fin (l0 := (D5, _) :: [(L + 1 + 1 + 1 + 1, o4'), (L + 1, o1)]) F9 ⟨rfl, rfl, rfl, rfl, rfl, rfl, rfl, rfl, rfl, rfl⟩ (off_set (by decide) (off_set (by decide) fun z hz => lawM_off hz)) N9
  · rename (_ != _) = true => hx
    rename (¬ 0 < (lv : Int)) => hlv0
    have e0 : ¬ 0 < lv := by omega
    rw [hb', decide_eq_false e0, decide_eq_false hlv0] at hx
    cases hx
  · rename Fr h₀ L _ _ => F9
    rename News h₀ L _ _ => N9
    exact fin F9 ⟨rfl, rfl, rfl, rfl, rfl, rfl, rfl, rfl, rfl, rfl⟩ (off_set (by decide) (off_set (by decide) fun z hz => lawM_off hz)) N9
end
end Mine
namespace Mine
open PyProof.Rows.LCg PyProof.Rows.LCt
section
variable {prog : Program} {w : World} {p : Program} {loose : List Str} {mean : ExcName → Option Value} {mg mb : Str → Option Value}
  {A : Around} {h₀ : Heap} {L : Addr} {m : Str → Option Value} {s : Shared} {Q : Value → Shared → Prop} {E : Value → Shared → Prop}
variable {Q' : Flow → Shared → Prop}
theorem ob_ne {l : PairR} {c : Addr} {o : Obj} {v : Option Value} (d : o.data = .cell v) (e : (l.x, l.ob) = (c, o)) : False := by
  have := congrArg Prod.snd e
  rw [← (show l.ob = o from this)] at d
  cases d
theorem mem_past {l : PairR} {c : Addr} {o : Obj} {v : Option Value} {R : List (Addr × Obj)} (d : o.data = .cell v) (h : (l.x, l.ob) ∈ (c, o) :: R) : (l.x, l.ob) ∈ R := by
  rcases List.mem_cons.mp h with h | h
  · exact (ob_ne d h).elim
  · exact h
theorem law_body1 {qual : Str} {scope : Scope} {body : List Stmt} {fa : Addr} {cd : Value} {Q' : Flow → Shared → Prop} (hlaw : LawIs w qual scope body) (H : Here w p loose mean mg mb A L h₀ 650 9500) (h1f : ∃ env₁, A.frames = some [env₁]) (hG : AllBare s.gens)
   {sc : Addr} {vs : List Value} {ns : List Int} (hl : h₀.IsList sc vs.toArray) (hI : IntsAre vs ns) (hlen : ns.length ≤ 63) (hlay : PyData.layable0 (.list (ns.map .int)) = true)
   {la : Addr} {nla : Nat} {ls : List PairR} {M : MgrR} {ps1 ps2 : Array Value} {de ki pi ot to : Option Value} {k : Int} {tk tl : Tok} {lv : Nat} {o1 o2 o3 o4 : Obj} {v3 v4 : Option Value} {R : List (Addr × Obj)} (h0 : 0 ≤ k) (h1 : k ≤ 20)
   (F : Fr h₀ L s.heap (lawM (some (.ref sc)) (some (.ref la)) (some (.int k tk)) de ki pi ot to none none none none)) (D : LawD prog w h₀ L la nla ls M ps1 ps2 ((L + 1 + 1 + 1, o3) :: (L + 1 + 1 + 1 + 1, o4) :: R) s.heap) (d3 : o3.data = .cell v3) (d4 : o4.data = .cell v4)
   (hR : ∀ q ∈ R, @Ne Nat q.1 (L + 1 + 1 + 1) ∧ @Ne Nat q.1 (L + 1 + 1 + 1 + 1)) (hls : ls.length ≤ 14)
   (c1 : (L + 1, o1) ∈ R) (d1 : o1.data = .cell (some (.int (lv : Int) tl))) (c2 : (L + 1 + 1, o2) ∈ R) (d2 : o2.data = .cell (some (.ref M.a))) (hlv : M.lv = (lv : Int)) (hlv6 : lv ≤ 14)
   (ret : ∀ (M' : MgrR) (la' : Addr) (nla' : Nat) (ls' : List PairR) (ps1' ps2' : Array Value) (de' ki' pi' ot' to' v3' v4' : Option Value) (o3' o4' o5 : Obj) (D5 : Addr) (s' : Shared), Fr h₀ L s'.heap (lawM (some (.ref sc)) (some (.ref la')) (some (.int k tk)) de' ki' pi' ot' to' none none none none) →
      LawD prog w h₀ L la' nla' ls' M' ps1' ps2' ((L + 1 + 1 + 1, o3') :: (L + 1 + 1 + 1 + 1, o4') :: (D5, o5) :: R) s'.heap → o3'.data = .cell v3' → o4'.data = .cell v4' → (∀ q ∈ (D5, o5) :: R, @Ne Nat q.1 (L + 1 + 1 + 1) ∧ @Ne Nat q.1 (L + 1 + 1 + 1 + 1)) →
      ls'.length ≤ ls.length + 1 → (∀ l ∈ ls', l ∈ ls ∨ (l.x, l.ob) = (D5, o5)) → (∀ q ∈ R, @Ne Nat q.1 D5) → M'.a = M.a → M'.lv = M.lv → AllBare s'.gens → s'.os = s.os → Q' .next s') :
   wpAny (model prog w) A (execs (loopOf 3 body) (envOfC qual scope L fa cd)) Q' (fun _ _ => False) s := by
  have n34 : @Ne Nat (L + 1 + 1 + 1 + 1) (L + 1 + 1 + 1) := fun e => absurd (show L + 1 + 1 + 1 + 1 = L + 1 + 1 + 1 from e) (Nat.succ_ne_self _)
  rw [parts6 (loopOf 3 body)]
  refine execs_app (segB hlaw H F D.cell_first d3 (D.off (List.forall_mem_cons.mpr ⟨n34, fun q hq => (hR q hq).1⟩)) hl hI hlen h0 h1 hlay ?_)
  intro D5 t1 t2 t3 t4 t5 o3' h' tk' d3' F1 N1 n5
  show wpAny _ _ (execs (_ ++ _) _) _ _ _
  obtain ⟨lp, hlpx, hob, hl1, hl2⟩ : ∃ lp : PairR, lp.x = D5 ∧ lp.ob = listOf #[.str (nm6 ((numN ns (1 + k) * 37).fdiv 12 |>.fmod 6).toNat) t4, .str (nm6 ((numN ns (1 + k) * 37).fdiv 72 |>.fmod 6).toNat) t5] 0 ∧ lp.n1 ∈ six ∧ lp.n2 ∈ six :=
    ⟨⟨D5, _, _, t4, t5, 0⟩, rfl, rfl, nm6_six _, nm6_six _⟩
  rw [← hob] at N1
  subst hlpx
  have D1 : LawD prog w h₀ L la nla ls M ps1 ps2 ((L + 1 + 1 + 1, o3') :: (L + 1 + 1 + 1 + 1, o4) :: (lp.x, lp.ob) :: R) h' := by
    have Da := D.recell (fun l hl => mem_past d3 (D.hls l hl)) (newsSub N1 (List.forall_mem_cons.mpr ⟨.head _, fun q hq => .tail _ (.tail _ hq)⟩))
    have Db := Da.more (X := [(lp.x, lp.ob)]) fun x hx => by
      rw [List.mem_singleton.mp hx]
      refine ⟨(N1 _ (.tail _ (.head _))).2.1, (N1 _ (.tail _ (.head _))).2.2, (N1 _ (.tail _ (.head _))).1, ?_⟩
      have nc : @Ne Nat (L + 1 + 1 + 1) lp.x := fun e => by
        have a := (N1 _ (.head _)).1
        have b := (N1 _ (.tail _ (.head _))).1
        dsimp only at a b
        rw [show L + 1 + 1 + 1 = lp.x from e, b] at a
        exact ob_ne (l := lp) d3' (by rw [Option.some.inj a])
      refine List.forall_mem_cons.mpr ⟨n5 _ (.head _), List.forall_mem_cons.mpr ⟨n5 _ (.tail _ (.head _)), List.forall_mem_cons.mpr ⟨n5 _ (.tail _ (.tail _ (.head _))), List.forall_mem_cons.mpr ⟨nc, fun q hq => n5 q (.tail _ (.tail _ (.tail _ hq)))⟩⟩⟩⟩
    refine Db.mono (List.forall_mem_cons.mpr ⟨.tail _ (.head _), List.forall_mem_cons.mpr ⟨.tail _ (.tail _ (.head _)), List.forall_mem_cons.mpr ⟨.head _, fun q hq => .tail _ (.tail _ (.tail _ hq))⟩⟩⟩) fun l hl => ?_
    exact .tail _ (.tail _ (.tail _ (mem_past d4 (mem_past d3 (D.hls l hl)))))
  have hR1 : ∀ q ∈ (lp.x, lp.ob) :: R, @Ne Nat q.1 (L + 1 + 1 + 1) ∧ @Ne Nat q.1 (L + 1 + 1 + 1 + 1) := by
    refine List.forall_mem_cons.mpr ⟨⟨fun e => ?_, (n5 _ (.tail _ (.tail _ (.tail _ (.head _))))).symm⟩, hR⟩
    have a := (N1 _ (.head _)).1
    have b := (N1 _ (.tail _ (.head _))).1
    dsimp only at a b e
    rw [← show lp.x = L + 1 + 1 + 1 from e, b] at a
    exact ob_ne (l := lp) d3' (by rw [Option.some.inj a])
  have nD5 : ∀ q ∈ R, @Ne Nat q.1 lp.x := fun q hq => n5 q (.tail _ (.tail _ (.tail _ (List.mem_append_left _ (.tail _ hq)))))
  clear D N1 n5 F hR
  have hls1 : ∀ l ∈ ls, (l.x, l.ob) ∈ (lp.x, lp.ob) :: R := fun l hl => mem_past d4 (mem_past d3' (D1.hls l hl))
  have okR : ∀ q ∈ (L + 1 + 1 + 1 + 1, o4) :: (lp.x, lp.ob) :: R, @Ne Nat q.1 (L + 1 + 1 + 1) := List.forall_mem_cons.mpr ⟨n34, fun q hq => (hR1 q hq).1⟩
  refine execs_app (segC (ls := ls) (lp := lp) hlaw H F1 D1.cell_first d3' (D1.off okR) (.inr (.head _)) (by omega) (fun l hl => .inr (.tail _ (.tail _ (.tail _ (List.mem_append_left _ (.tail _ (hls1 l hl))))))) D1.okl ?_)
  intro l o3'' h2 tk2 hl' d3'' F2 N2
  show wpAny _ _ (execs (_ ++ _) _) _ _ _
  have D2 := D1.recell (fun l hl => .tail _ (hls1 l hl)) N2
  have hlR : (l.x, l.ob) ∈ (lp.x, lp.ob) :: R := by
    rcases hl' with rfl | hl'
    · exact .head _
    · exact hls1 l hl'
  have hl6 : l.n1 ∈ six ∧ l.n2 ∈ six := by
    rcases hl' with rfl | hl'
    · exact ⟨hl1, hl2⟩
    · exact D1.six l hl'
  clear D1 N2 F1
  refine execs_app (segD1 (lp := l) hlaw H h1f hG F2 D2 (by omega) (.tail _ (.tail _ (.tail _ c2))) d2 (.head _) d3'' (.tail _ (.tail _ hlR)) hl6 ?_)
  intro M' la' nla' ls' ps1' ps2' s' F3 D3 hln hnw ha hv hG' os'
  clear D2 F2
  have hls3 : ∀ l ∈ ls', (l.x, l.ob) ∈ (lp.x, lp.ob) :: R := fun l hl => mem_past d4 (mem_past d3'' (D3.hls l hl))
  have D4 := D3.mono (R' := (L + 1 + 1 + 1 + 1, o4) :: (L + 1 + 1 + 1, o3'') :: (lp.x, lp.ob) :: R) (List.forall_mem_cons.mpr ⟨.tail _ (.head _), List.forall_mem_cons.mpr ⟨.head _, fun q hq => .tail _ (.tail _ hq)⟩⟩) fun l hl => .tail _ (.tail _ (hls3 l hl))
  refine segE hlaw H hG' F3 D4 d4 (List.forall_mem_cons.mpr ⟨n34.symm, fun q hq => (hR1 q hq).2⟩) (by omega) (fun l hl => .tail _ (hls3 l hl)) (.tail _ (.tail _ c1)) d1 (.tail _ (.tail _ c2)) (by rw [ha]; exact d2) (hv.trans hlv) hlv6 ?_
  intro M'' ps2'' o4' v4' ot' to' s'' F5 D5' d4' ha' hv' hG'' os''
  have D6 := D5'.mono (R' := (L + 1 + 1 + 1, o3'') :: (L + 1 + 1 + 1 + 1, o4') :: (lp.x, lp.ob) :: R) (List.forall_mem_cons.mpr ⟨.tail _ (.head _), List.forall_mem_cons.mpr ⟨.head _, fun q hq => .tail _ (.tail _ hq)⟩⟩) fun l hl => .tail _ (.tail _ (hls3 l hl))
  exact ret M'' la' nla' ls' ps1' ps2'' _ _ _ ot' to' _ v4' o3'' o4' lp.ob lp.x s'' F5 D6 d3'' d4' hR1 hln (fun q hq => by
    rcases hnw q hq with h | rfl
    · exact .inl h
    · rcases hl' with rfl | h
      · exact .inr rfl
      · exact .inl h) nD5 (ha'.trans ha) (hv'.trans hv) hG'' (os''.trans os')
end
end Mine
namespace Mine
open PyProof.Rows.LCg PyProof.Rows.LCt
section
variable {prog : Program} {w : World} {p : Program} {loose : List Str} {mean : ExcName → Option Value} {mg mb : Str → Option Value}
  {A : Around} {h₀ : Heap} {L : Addr} {m : Str → Option Value} {s : Shared} {Q : Value → Shared → Prop} {E : Value → Shared → Prop}
variable {Q' : Flow → Shared → Prop}
structure LawSt where
  la : Addr
  nla : Nat
  ls : List PairR
  M : MgrR
  p1 : Array Value
  p2 : Array Value
  k : Option Value
  de : Option Value
  ki : Option Value
  pi : Option Value
  ot : Option Value
  to : Option Value
  v3 : Option Value
  v4 : Option Value
  o3 : Obj
  o4 : Obj
  R : List (Addr × Obj)
structure LawOk (prog : Program) (w : World) (h₀ : Heap) (L sc : Addr) (lv : Nat) (o1 o2 : Obj) (a : Addr) (os : OsState) (n : Nat) (S : LawSt) (t : Shared) : Prop where
  F : Fr h₀ L t.heap (lawM (some (.ref sc)) (some (.ref S.la)) S.k S.de S.ki S.pi S.ot S.to none none none none)
  D : LawD prog w h₀ L S.la S.nla S.ls S.M S.p1 S.p2 ((L + 1 + 1 + 1, S.o3) :: (L + 1 + 1 + 1 + 1, S.o4) :: S.R) t.heap
  d3 : S.o3.data = .cell S.v3
  d4 : S.o4.data = .cell S.v4
  hR : ∀ q ∈ S.R, @Ne Nat q.1 (L + 1 + 1 + 1) ∧ @Ne Nat q.1 (L + 1 + 1 + 1 + 1)
  c1 : (L + 1, o1) ∈ S.R
  c2 : (L + 1 + 1, o2) ∈ S.R
  ha : S.M.a = a
  hlv : S.M.lv = (lv : Int)
  hls : S.ls.length ≤ n
  hG : AllBare t.gens
  hos : t.os = os
noncomputable def LawSt.led (S : LawSt) (P : Params) (L : Addr) : List (Addr × Obj) := (S.la, lsOb S.ls S.nla) :: (742, tabObj S.p1) :: (906, tabObj S.p2) :: (((L + 1 + 1 + 1, S.o3) :: (L + 1 + 1 + 1 + 1, S.o4) :: S.R) ++ S.M.all P)
section
variable {sc a : Addr} {lv n : Nat} {o1 o2 : Obj} {os : OsState} {S : LawSt} {t : Shared} {h' : Heap} {tk : Nat}
theorem LawOk.but (O : LawOk prog w h₀ L sc lv o1 o2 a os n S t) {I : Addr} (k : KeepBut [I] t.heap h') (i1 : @Ne Nat I L) (i2 : h₀.get? I = none) (i3 : ∀ q ∈ S.led w.params L, @Ne Nat q.1 I) : LawOk prog w h₀ L sc lv o1 o2 a os n S { t with heap := h', toks := tk } :=
  ⟨Fr.but O.F k (notin1 i1.symm) fun b hb => by rw [List.mem_singleton.mp hb]; exact i2, O.D.at (News.but O.D.N k fun q hq => notin1 (i3 q hq)), O.d3, O.d4, O.hR, O.c1, O.c2, O.ha, O.hlv, O.hls, O.hG, O.hos⟩
theorem LawOk.keep (O : LawOk prog w h₀ L sc lv o1 o2 a os n S t) (k : Keep t.heap h') : LawOk prog w h₀ L sc lv o1 o2 a os n S { t with heap := h', toks := tk } :=
  ⟨O.F.keeps k, O.D.at (O.D.N.grown k), O.d3, O.d4, O.hR, O.c1, O.c2, O.ha, O.hlv, O.hls, O.hG, O.hos⟩
theorem LawOk.fresh (O : LawOk prog w h₀ L sc lv o1 o2 a os n S t) {I : Addr} (hI : t.heap.get? I = none) : @Ne Nat I L ∧ h₀.get? I = none ∧ ∀ q ∈ S.led w.params L, @Ne Nat q.1 I :=
  ⟨Fr.neOf O.F hI, none_of_keep O.F.keep hI, fun q hq e => by have := (O.D.N q hq).1; rw [show q.1 = I from e, hI] at this; cases this⟩
end
theorem law_loop1 {qual : Str} {scope : Scope} {body : List Stmt} {fa : Addr} {cd : Value} {Q' : Flow → Shared → Prop} (hlaw : LawIs w qual scope body) (H : Here w p loose mean mg mb A L h₀ 650 9500) (h1f : ∃ env₁, A.frames = some [env₁])
   {sc a : Addr} {vs : List Value} {ns : List Int} (hl : h₀.IsList sc vs.toArray) (hI : IntsAre vs ns) (hlen : ns.length ≤ 63) (hlay : PyData.layable0 (.list (ns.map .int)) = true)
   {lv : Nat} {tl : Tok} {o1 o2 : Obj} {S : LawSt} (O : LawOk prog w h₀ L sc lv o1 o2 a s.os 0 S s) (d1 : o1.data = .cell (some (.int (lv : Int) tl))) (d2 : o2.data = .cell (some (.ref a))) (hlv6 : lv ≤ 14)
   (ret : ∀ (S' : LawSt) (s' : Shared), LawOk prog w h₀ L sc lv o1 o2 a s.os 12 S' s' → (∀ q ∈ S.R, q ∈ S'.R) → Q' .next s') :
   wpAny (model prog w) A (execs ((body.drop 3).take 1) (envOfC qual scope L fa cd)) Q' (fun _ _ => False) s := by
  have hl0 := hlaw
  obtain ⟨rfl, rfl, rfl⟩ := hlaw.eq (by k_is)
  show wpAny _ _ (execs [_] _) _ _ _
  have hHB := H
  refine H.openC ?_
  clear H
  intro A₀ base outer env B hA hf hke hh hdp hun X T
  obtain ⟨hd', dp, fr, gd, un⟩ := A
  dsimp only at hA hh hdp hun; subst hh
  clear hlaw
  have F := O.F
  have N := O.D.N
  refine wpAny_execs_cons ?_
  refine For_R ?_ (by intro _; rfl)
  k_steps
  rename IsRange _ _ _ _ _ _ _ _ => R2
  rename (∀ b o, _ → _) => kr
  have O1 : LawOk prog w h₀ L sc lv o1 o2 a s.os 0 S { heap := _, gens := s.gens, drawn := s.drawn, toks := 0, os := s.os } := O.keep kr
  clear O kr
  refine Stop.mk ⟨_, 12, _, _, _, fun I i t => ∃ S' : LawSt, LawOk prog w h₀ L sc lv o1 o2 a s.os i S' t ∧ (∀ q ∈ S.R, q ∈ S'.R) ∧ (@Ne Nat I L ∧ h₀.get? I = none ∧ ∀ q ∈ S'.led w.params L, @Ne Nat q.1 I), rfl, R2, by decide, by decide, by first | rfl | trivial, fun I h' hI k => ⟨S, O1.keep k, fun q hq => hq, O1.fresh hI⟩, ?_, ?_, ?_⟩
  · rintro I i t h' tk ⟨S', O', iS, i1, i2, i3⟩ k
    exact ⟨S', O'.but k i1 i2 i3, iS, i1, i2, i3⟩
  · rintro I i tk t hi ⟨S', O', iS, i1, i2, i3⟩ ⟨oI, eI⟩
    refine wpAny_assign_Name (wpAny_storeName_local (by with_unfolding_all rfl) O'.F.ns (fun h4 hn4 hs4 => ?_) (by with_unfolding_all rfl))
    have F4 : Fr h₀ L h4 (lawM (some (.ref sc)) (some (.ref S'.la)) (some (.int (i : Int) tk)) S'.de S'.ki S'.pi S'.ot S'.to none none none none) :=
      Fr.law (m := fun z => if z = ("k" : Str) then some (.int (i : Int) tk) else lawM (some (.ref sc)) (some (.ref S'.la)) S'.k S'.de S'.ki S'.pi S'.ot S'.to none none none none z) (O'.F.set hn4 hs4) (off_set (by decide) fun z hz => lawM_off hz)
    have k4 : KeepBut [L] t.heap h4 := fun b o n e => (hs4.2 b (fun q => n (List.mem_singleton.mpr q))).trans e
    have D4 := O'.D.at (News.but O'.D.N k4 fun q hq => notin1 (O'.D.N q hq).2.1)
    have eI4 : h4.get? I = some oI := k4 I oI (notin1 i1) eI
    have D5 := (D4.more (X := [(I, oI)]) fun x hx => by
      rw [List.mem_singleton.mp hx]; exact ⟨i1, i2, eI4, i3⟩).mono (R' := (L + 1 + 1 + 1, S'.o3) :: (L + 1 + 1 + 1 + 1, S'.o4) :: (I, oI) :: S'.R) (List.forall_mem_cons.mpr ⟨.tail _ (.head _), List.forall_mem_cons.mpr ⟨.tail _ (.tail _ (.head _)), List.forall_mem_cons.mpr ⟨.head _, fun q hq => .tail _ (.tail _ (.tail _ hq))⟩⟩⟩) fun l hl => .tail _ (.tail _ (.tail _ (mem_past O'.d4 (mem_past O'.d3 (O'.D.hls l hl)))))
    have rI : ∀ q ∈ (I, oI) :: S'.R, @Ne Nat q.1 (L + 1 + 1 + 1) ∧ @Ne Nat q.1 (L + 1 + 1 + 1 + 1) := List.forall_mem_cons.mpr ⟨⟨(i3 _ (.tail _ (.tail _ (.tail _ (.head _))))).symm, (i3 _ (.tail _ (.tail _ (.tail _ (.tail _ (.head _)))))).symm⟩, O'.hR⟩
    have hls' := O'.hls
    refine law_body1 (R := (I, oI) :: S'.R) (ls := S'.ls) hl0 hHB h1f O'.hG hl hI hlen hlay (by omega) (by omega) F4 D5 O'.d3 O'.d4 rI (by omega) (.tail _ O'.c1) d1 (.tail _ O'.c2) (by rw [O'.ha]; exact d2) O'.hlv hlv6 ?_
    intro M' la' nla' ls' ps1' ps2' de' ki' pi' ot' to' v3' v4' o3' o4' o5 D6 s' F6 D6' e3 e4 r6 hln hnw n6 ha' hlv' hG' hos'
    show Stop _
    have hls6 : ∀ l ∈ ls', (l.x, l.ob) ∈ (L + 1 + 1 + 1, o3') :: (L + 1 + 1 + 1 + 1, o4') :: (D6, o5) :: S'.R := fun l hl => by
      rcases hnw l hl with h | h
      · exact .tail _ (.tail _ (.tail _ (mem_past O'.d4 (mem_past O'.d3 (O'.D.hls l h)))))
      · rw [h]; exact .tail _ (.tail _ (.head _))
    have D7 := D6'.mono (List.forall_mem_cons.mpr ⟨.head _, List.forall_mem_cons.mpr ⟨.tail _ (.head _), List.forall_mem_cons.mpr ⟨.tail _ (.tail _ (.head _)), fun q hq => .tail _ (.tail _ (.tail _ (.tail _ hq)))⟩⟩⟩) hls6
    have iN := D6'.N (I, oI) (.tail _ (.tail _ (.tail _ (.tail _ (.tail _ (.tail _ (.head _)))))))
    refine Stop.mk ⟨⟨⟨la', nla', ls', M', ps1', ps2', _, de', ki', pi', ot', to', v3', v4', o3', o4', (D6, o5) :: S'.R⟩, ⟨F6, D7, e3, e4, List.forall_mem_cons.mpr ⟨r6 _ (.head _), fun q hq => r6 q (.tail _ (.tail _ hq))⟩, .tail _ O'.c1, .tail _ O'.c2, ha'.trans O'.ha, hlv'.trans O'.hlv, Nat.le_trans hln (Nat.succ_le_succ hls'), hG', hos'.trans O'.hos⟩, fun q hq => .tail _ (iS q hq), i1, i2, fun q hq => ?_⟩, fun o e => ?_⟩
    · refine memc hq ?_ fun hq => ?_
      · exact ((D6'.Rla (I, oI) (.tail _ (.tail _ (.tail _ (.head _))))).1).symm
      refine memc hq ?_ fun hq => ?_
      · exact ((D6'.Rla (I, oI) (.tail _ (.tail _ (.tail _ (.head _))))).2.1).symm
      refine memc hq ?_ fun hq => ?_
      · exact ((D6'.Rla (I, oI) (.tail _ (.tail _ (.tail _ (.head _))))).2.2).symm
      rcases List.mem_append.mp hq with hq | hq
      · refine memc hq ?_ fun hq => ?_
        · exact (rI _ (.head _)).1.symm
        refine memc hq ?_ fun hq => ?_
        · exact (rI _ (.head _)).2.symm
        refine memc hq ?_ fun hq => ?_
        · exact (n6 _ (.head _)).symm
        · exact i3 q (.tail _ (.tail _ (.tail _ (List.mem_append_left _ (.tail _ (.tail _ hq))))))
      · exact (D6'.dis (I, oI) (.tail _ (.tail _ (.tail _ (.tail _ (.tail _ (.tail _ (.head _))))))) q hq).symm
    · rw [eI] at e; cases e; exact iN.1
  · rintro I t ⟨S', O', iS, _⟩
    k_steps
    exact ret S' t O' iS
end
end Mine
namespace Mine
open PyProof.Rows.LCg PyProof.Rows.LCt
section
variable {prog : Program} {w : World} {p : Program} {loose : List Str} {mean : ExcName → Option Value} {mg mb : Str → Option Value}
  {A : Around} {h₀ : Heap} {L : Addr} {m : Str → Option Value} {s : Shared} {Q : Value → Shared → Prop} {E : Value → Shared → Prop}
variable {Q' : Flow → Shared → Prop}
local macro_rules | `(tactic| walk_at "eval ListComp") => `(tactic| (refine Stop.of ?_))
theorem segG1 {qual : Str} {scope : Scope} {body : List Stmt} {fa : Addr} {cd : Value} {Q' : Flow → Shared → Prop} (hlaw : LawIs w qual scope body) (H : Here w p loose mean mg mb A L h₀ 650 9500) (hG : AllBare s.gens)
   {la : Addr} {nla : Nat} {ls : List PairR} {M : MgrR} {ps1 ps2 : Array Value} {sc k de ki pi ot to : Option Value} {tl kn : Tok} {nm : Str} {lv : Nat} {o1 o2 o4 o5 : Obj} {v5 : Option Value} {R : List (Addr × Obj)}
   (F : Fr h₀ L s.heap (lawM sc (some (.ref la)) k de ki pi ot to none none none none)) (D : LawD prog w h₀ L la nla ls M ps1 ps2 ((L + 1 + 1 + 1 + 1 + 1, o5) :: R) s.heap) (d5 : o5.data = .cell v5) (h5 : ∀ q ∈ R, @Ne Nat q.1 (L + 1 + 1 + 1 + 1 + 1)) (hlen : ls.length ≤ 20)
   (hlsR : ∀ l ∈ ls, (l.x, l.ob) ∈ R) (c1 : (L + 1, o1) ∈ R) (d1 : o1.data = .cell (some (.int (lv : Int) tl))) (c2 : (L + 1 + 1, o2) ∈ R) (d2 : o2.data = .cell (some (.ref M.a))) (c4 : (L + 1 + 1 + 1 + 1, o4) ∈ R) (d4 : o4.data = .cell (some (.str nm kn))) (hnm : nm ∈ six) (hlv : M.lv = (lv : Int)) (hlv6 : lv ≤ 14)
   (ret : ∀ (M' : MgrR) (ps2' : Array Value) (o5' : Obj) (v5' : Option Value) (s' : Shared), Fr h₀ L s'.heap (lawM sc (some (.ref la)) k de ki pi ot to none none none none) → LawD prog w h₀ L la nla ls M' ps1 ps2' ((L + 1 + 1 + 1 + 1 + 1, o5') :: R) s'.heap → o5'.data = .cell v5' →
      M'.a = M.a → M'.lv = M.lv → AllBare s'.gens → s'.os = s.os → Q' .next s') :
   wpAny (model prog w) A (execs ((loopOf 4 body).take 2) (envOfC qual scope L fa cd)) Q' (fun _ _ => False) s := by
  obtain ⟨rfl, rfl, rfl⟩ := hlaw.eq (by k_is)
  show wpAny _ _ (execs [_, _] _) _ _ _
  have hHB := H
  refine H.openC ?_
  clear H
  intro A₀ base outer env B hA hf hke hh hdp hun X T
  obtain ⟨hd', dp, fr, gd, un⟩ := A
  dsimp only at hA hh hdp hun; subst hh
  clear hlaw
  obtain ⟨RR, hRR⟩ : ∃ RR, RR = (la, lsOb ls nla) :: (742, tabObj ps1) :: (906, tabObj ps2) :: (R ++ M.all w.params) := ⟨_, rfl⟩
  have nRR : ∀ q ∈ RR, @Ne Nat q.1 (L + 1 + 1 + 1 + 1 + 1) := hRR ▸ D.off h5
  have aRR : ∀ q ∈ R, q ∈ RR := fun q hq => hRR ▸ .tail _ (.tail _ (.tail _ (List.mem_append_left _ hq)))
  have N0 := D.cell_first
  rw [← hRR] at N0
  have N1 : News h₀ L s.heap ((L + 1 + 1 + 1 + 1 + 1, o5) :: (L + 1, o1) :: (L + 1 + 1 + 1 + 1, o4) :: RR) := newsSub N0 (List.forall_mem_cons.mpr ⟨.head _, List.forall_mem_cons.mpr ⟨.tail _ (aRR _ c1), List.forall_mem_cons.mpr ⟨.tail _ (aRR _ c4), fun q hq => .tail _ hq⟩⟩⟩)
  have n1 : @Ne Nat (L + 1) (L + 1 + 1 + 1 + 1 + 1) := h5 _ c1
  have n4 : @Ne Nat (L + 1 + 1 + 1 + 1) (L + 1 + 1 + 1 + 1 + 1) := h5 _ c4
  clear N0
  k_steps
  refine Stop.mk ?_
  refine' law_near_led (ls := ls) ?lH ?lF ?lN ?la ?lb ?lc ?ld ?le ?_
  case lH => exact hHB
  case lF => exact F
  case lN => exact N1
  case la => exact (D.N _ (.head _)).1
  case lb => exact fun l hl => (D.N (l.x, l.ob) (.tail _ (.tail _ (.tail _ (List.mem_append_left _ (.tail _ (hlsR l hl))))))).1
  case lc => omega
  case ld => omega
  case le => omega
  intro Dn nv nn h1 tk1 hnv F1 N2 offn nn' k1
  clear nn' k1 N1 F
  simp only [Off1, and_true] at offn
  have e1 : ((lv : Int) - 1).toNat = lv - 1 := ar_lv lv
  rw [e1] at hnv
  dsimp only
  k_steps
  rename Fr h₀ L _ _ => F2
  rename News h₀ L _ _ => N3
  rename (_ = Data.cell (some (Value.ref Dn))) => d5'
  rename Obj => o5'
  have D1 := D.recell hlsR (newsSub N3 (List.forall_mem_cons.mpr ⟨.tail _ (.head _), fun q hq => .tail _ (.tail _ (.tail _ (.tail _ (hRR ▸ hq))))⟩))
  have D2 := D1.more (X := [(Dn, listOf (vals nv).toArray nn)]) fun x hx => by
    rw [List.mem_singleton.mp hx]
    have z := N3 _ (.head _)
    refine ⟨z.2.1, z.2.2, z.1, ?_⟩
    have r := off1_all offn.2.2.2
    rw [hRR] at r
    exact List.forall_mem_cons.mpr ⟨r _ (.head _), List.forall_mem_cons.mpr ⟨r _ (.tail _ (.head _)), List.forall_mem_cons.mpr ⟨r _ (.tail _ (.tail _ (.head _))), List.forall_mem_cons.mpr ⟨offn.1, fun q hq => r q (.tail _ (.tail _ (.tail _ hq)))⟩⟩⟩⟩
  clear D1
  refine Stop.mk ?_
  refine' ListComp_N ?z1 ?z2 ?z3 ?z4 ?z5 ?_ ?z6
  case z1 => with_unfolding_all rfl
  case z2 => decide
  case z3 => rfl
  case z4 => decide
  case z5 => with_unfolding_all rfl
  case z6 => intro _; with_unfolding_all rfl
  clear N3
  have N4 := D2.N
  k_steps
  rename_i ax tkn hx tkx F3 N5 off3
  have D3 := (D2.at (newsSub N5 fun q hq => .tail _ hq)).more (X := [(ax, listOf (its6 tkn).toArray 0)]) fun x hx => by
    rw [List.mem_singleton.mp hx]
    have z := N5 _ (.head _)
    have r := off1_all off3.2.2.2
    exact ⟨z.2.1, z.2.2, z.1, List.forall_mem_cons.mpr ⟨off3.1, List.forall_mem_cons.mpr ⟨off3.2.1, List.forall_mem_cons.mpr ⟨off3.2.2.1, r⟩⟩⟩⟩
  clear D2 N5 off3
  dsimp only [List.cons_append, List.nil_append] at D3
  have O3 : HasJ prog w h₀ L la nla ls ps1 _ _ s.os M.a lv nm [] 0 [] M ps2 { heap := _, gens := s.gens, drawn := s.drawn, toks := 0, os := s.os } := ⟨D3, F3, hG, rfl, rfl, hlv, rfl, fun b hb => (nomatch hb), fun b hb => (nomatch hb)⟩
  clear D3 F3
  refine Stop.mk ⟨ax, its6 tkn, fun own i ys t => ∃ q : MgrR × Array Value, HasJ prog w h₀ L la nla ls ps1 ((ax, listOf (its6 tkn).toArray 0) :: (Dn, listOf (vals nv).toArray nn) :: (L + 1 + 1 + 1 + 1 + 1, o5') :: R) (lawM sc (some (.ref la)) k de ki pi ot to none none none none) s.os M.a lv nm own i ys q.1 q.2 t, rfl, ⟨_, (O3.D.N _ (.tail _ (.tail _ (.tail _ (.head _))))).1, rfl, _, rfl⟩, ?_, by first | rfl | trivial, ?_, ?_, ?_, ?_, ?_⟩
  · rw [sizeLine_eq]; unfold its6; rw [List.length_map, List.length_range]; decide
  · intro own h' tk ho k'
    refine ⟨(M, ps2), O3.D.at (O3.D.N.grown k'), O3.F.keeps k', hG, rfl, rfl, hlv, rfl, fun b hb => ⟨Fr.neOf O3.F (ho b hb), none_of_keep O3.F.keep (ho b hb)⟩, fun b hb q hq e => ?_⟩
    have := (O3.D.N q hq).1
    rw [show q.1 = b from e, ho b hb] at this; cases this
  · rintro own i ys t h' tk ⟨q, J⟩ k'
    exact ⟨q, J.but k'⟩
  · rintro own i ys t ⟨q, J⟩
    exact ⟨_, (J.D.N _ (.tail _ (.tail _ (.tail _ (.head _))))).1, rfl, _, rfl⟩
  · rintro own i ys v t C m₂ hC hv ⟨⟨M', ps'⟩, J⟩ hn hm hex
    obtain ⟨hi, rfl, hb⟩ := its6_at hv
    refine tests_none ?_
    rw [if_pos rfl]
    dsimp only at J
    clear O3
    obtain ⟨oC, eC, nC⟩ := ns_obj hn
    obtain ⟨ht, gt, dt, tkt, ost⟩ := t
    have d2' : o2.data = .cell (some (.ref M'.a)) := by rw [J.ha]; exact d2
    obtain ⟨RQ, hRQ⟩ : ∃ x, x = (la, lsOb ls nla) :: (742, tabObj ps1) :: (906, tabObj ps') :: (((ax, listOf (its6 tkn).toArray 0) :: (Dn, listOf (vals nv).toArray nn) :: (L + 1 + 1 + 1 + 1 + 1, o5') :: R) ++ M'.all w.params) := ⟨_, rfl⟩
    have qR : ∀ q ∈ R, q ∈ RQ := fun q hq => hRQ ▸ .tail _ (.tail _ (.tail _ (.tail _ (.tail _ (.tail _ (List.mem_append_left _ hq))))))
    have qM : ∀ q ∈ M'.all w.params, q ∈ RQ := fun q hq => hRQ ▸ .tail _ (.tail _ (.tail _ (List.mem_append_right _ hq)))
    have N5 : News h₀ L ht RQ := hRQ ▸ J.D.N
    have N6 := news_cons (p := (C, oC)) eC (J.o1 C hC).1 (J.o1 C hC).2 (newsSub (news' := (L + 1 + 1, o2) :: (L + 1 + 1 + 1 + 1, o4) :: RQ) N5 (List.forall_mem_cons.mpr ⟨qR _ c2, List.forall_mem_cons.mpr ⟨qR _ c4, fun q hq => hq⟩⟩))
    have ba : h₀.get? M'.a = some (instObj 929 M'.d) ∨ (M'.a, instObj 929 M'.d) ∈ RQ := .inr (qM _ (.head _))
    have bd : h₀.get? M'.d = some (mgrDict w.params M'.lv M'.tl M'.u1 M'.u2 M'.u3 M'.u4 M'.u5 M'.al M'.ar) ∨ (M'.d, mgrDict w.params M'.lv M'.tl M'.u1 M'.u2 M'.u3 M'.u4 M'.u5 M'.al M'.ar) ∈ RQ := .inr (qM (M'.d, M'.dob w.params) (.tail _ (.head _)))
    have F6 := J.F
    clear N5 d2 hRQ qR qM
    dsimp only at F6
    k_steps
    refine Stop.mk ?_
    refine' has_linkM ?uH ?uF ?uG ?uT J.D.O ?uI ?uS J.hlv ?uk ?uN ?_
    case uH => exact hHB.le (by omega) (by omega)
    case uF => exact J.F
    case uG => exact J.hG
    case uT => exact J.D.tr2
    case uI => exact J.D.In
    case uS => have := J.D.roles; omega
    case uk => omega
    case uN => exact newsSub J.D.N (List.forall_mem_cons.mpr ⟨.tail _ (.tail _ (.tail _ (List.mem_append_right _ (.tail _ (.tail _ (.tail _ (.head _))))))), List.forall_mem_cons.mpr ⟨.tail _ (.tail _ (.head _)), List.forall_mem_nil _⟩⟩)
    intro b o rs s' ps'' hbb O' I' hrs kb e906 tr' hG' os'
    have st := J.step (t' := s') hex O' I' (fun q hq => ⟨by rcases (hrs q hq).1 with e | e <;> (rw [e]; first | exact hnm | exact nm6_in hi), (hrs q hq).2⟩) kb e906 tr' hG' os' hb
    rw [← hbb] at st
    exact Stop.mk ⟨⟨(M'.grow o rs, ps''), st.1⟩, st.2⟩
  · rintro own D4 ys t hD ⟨⟨M', ps'⟩, J⟩ eD
    dsimp only at J
    clear O3
    have hys : ys = boolsV ((List.range 6).map fun i => hasN (ls.map PairR.pr) (nm6 i) lv [nm]) := by
      have := J.hy
      unfold its6 at this
      rw [List.length_map, List.length_range, List.take_of_length_le (by decide), six_range] at this
      exact this
    obtain ⟨ht, gt, dt, tkt, ost⟩ := t
    obtain ⟨RQ, hRQ⟩ : ∃ x, x = (la, lsOb ls nla) :: (742, tabObj ps1) :: (906, tabObj ps') :: (((ax, listOf (its6 tkn).toArray 0) :: (Dn, listOf (vals nv).toArray nn) :: (L + 1 + 1 + 1 + 1 + 1, o5') :: R) ++ M'.all w.params) := ⟨_, rfl⟩
    have qR : ∀ q ∈ R, q ∈ RQ := fun q hq => hRQ ▸ .tail _ (.tail _ (.tail _ (.tail _ (.tail _ (.tail _ (List.mem_append_left _ hq))))))
    have qn : (Dn, listOf (vals nv).toArray nn) ∈ RQ := hRQ ▸ .tail _ (.tail _ (.tail _ (.tail _ (.head _))))
    have q5 : (L + 1 + 1 + 1 + 1 + 1, o5') ∈ RQ := hRQ ▸ .tail _ (.tail _ (.tail _ (.tail _ (.tail _ (.head _)))))
    have N5 : News h₀ L ht RQ := hRQ ▸ J.D.N
    have N6 := news_cons (p := (D4, lst ys)) eD (J.o1 D4 hD).1 (J.o1 D4 hD).2 (newsSub (news' := (Dn, listOf (vals nv).toArray nn) :: (L + 1, o1) :: (L + 1 + 1 + 1 + 1 + 1, o5') :: RQ) N5 (List.forall_mem_cons.mpr ⟨qn, List.forall_mem_cons.mpr ⟨qR _ c1, List.forall_mem_cons.mpr ⟨q5, fun q hq => hq⟩⟩⟩))
    have F6 := J.F
    clear N5 d2
    dsimp only at F6
    refine' ListComp_Z (α := Nat) ?y1 ?y2 ?y3 ?y4 ?y5 ?_ ?y6
    case y1 => with_unfolding_all rfl
    case y2 => decide
    case y3 => rfl
    case y4 => decide
    case y5 => with_unfolding_all rfl
    case y6 => intro _; with_unfolding_all rfl
    k_steps
    rename_i ax2 tkn2 hx2 tkx2 F8 N8 off8
    refine Stop.mk ⟨ax2, List.range 6, fun i => .str (nm6 i) (tkn2 i), fun _ => true, fun i => .bool (decide (0 < lv) && decide (nm6 i ∈ nv.map (·.1))), rfl, ⟨_, (N8 _ (.head _)).1, rfl, _, rfl⟩, by rw [sizeLine_eq]; decide, by first | rfl | trivial, ?_, ?_, ?_⟩
    · intro i v C m₂ h5 tk5 hv k5 hC hn hm
      exact tests_none ⟨rfl, _, _, rfl, Keep.refl _⟩
    · intro i v C m₂ h5 tk5 hv hz k5 hC hn hm
      obtain ⟨oC, eC, nC⟩ := ns_obj hn
      have N9 := news_cons (p := (C, oC)) eC (Fr.neOf F8 hC) (none_of_keep F8.keep hC) (N8.grown k5)
      have F9 := F8.keeps k5
      clear N8 F8 off8
      k_steps
      · rename (0 < (lv : Int)) => hlv0
        refine in_strs (News.get N9 (.tail _ (.tail _ (.tail _ (.head _))))) ?_
        refine Stop.mk ⟨?_, _, _, rfl, Keep.refl _⟩
        show Value.bool (decide (nm6 v ∈ nv.map (·.1))) = Value.bool (decide (0 < lv) && decide (nm6 v ∈ nv.map (·.1)))
        rw [decide_eq_true (by omega : 0 < lv), Bool.true_and]
      · rename (¬ 0 < (lv : Int)) => hlv0
        refine Stop.mk ⟨?_, _, _, rfl, Keep.refl _⟩
        show Value.bool (decide (0 < (lv : Int))) = Value.bool (decide (0 < lv) && decide (nm6 v ∈ nv.map (·.1)))
        rw [decide_eq_false hlv0, decide_eq_false (by omega : ¬ 0 < lv), Bool.false_and]
    · intro D9 h9 tk9 k9 hD9 eD9
      have N9 := N8.grown k9
      have F9 := F8.keeps k9
      rw [all_bools (fun _ => rfl) (fun _ => rfl)] at eD9
      have same : ((List.range 6).map fun i => hasN (ls.map PairR.pr) (nm6 i) lv [nm]) = (List.range 6).map fun i => (decide (0 < lv) && decide (nm6 i ∈ nv.map (·.1))) := List.map_congr_left fun i _ => by rw [hasN_near, hnv]
      refine bools_ne (bs := (List.range 6).map fun i => (decide (0 < lv) && decide (nm6 i ∈ nv.map (·.1)))) ?w1 eD9 ?w2 ?_
      case w1 => rw [← same, ← hys]; exact (N9 _ (.tail _ (.head _))).1
      case w2 => k_units
      k_steps
      have N10 : News h₀ L h9 RQ := newsSub N9 fun q hq => .tail _ (.tail _ (.tail _ (.tail _ (.tail _ hq))))
      rw [hRQ] at N10
      have D10 := (J.D.mono (R' := (L + 1 + 1 + 1 + 1 + 1, o5') :: R) (fun q hq => .tail _ (.tail _ hq)) (fun l hl => .tail _ (hlsR l hl))).at (h' := h9) (newsSub N10 (List.forall_mem_cons.mpr ⟨.head _, List.forall_mem_cons.mpr ⟨.tail _ (.head _), List.forall_mem_cons.mpr ⟨.tail _ (.tail _ (.head _)), fun q hq => .tail _ (.tail _ (.tail _ (.tail _ (.tail _ hq))))⟩⟩⟩))
      exact ret M' ps' o5' _ _ F9 D10 d5' J.ha (J.hlv.trans hlv.symm) J.hG J.hos
end
end Mine
namespace Mine
open PyProof.Rows.LCg PyProof.Rows.LCt
section
variable {prog : Program} {w : World} {p : Program} {loose : List Str} {mean : ExcName → Option Value} {mg mb : Str → Option Value}
  {A : Around} {h₀ : Heap} {L : Addr} {m : Str → Option Value} {s : Shared} {Q : Value → Shared → Prop} {E : Value → Shared → Prop}
variable {Q' : Flow → Shared → Prop}
local macro_rules | `(tactic| walk_at "eval ListComp") => `(tactic| (refine Stop.of ?_))
local macro_rules | `(tactic| walk_at "call builtin:sorted") => `(tactic| (refine Stop.of ?_))
local macro_rules | `(tactic| walk_at "compareOp NotEq ref ref") => `(tactic| (with_reducible refine stop_cmp ?_))
theorem segG2 {qual : Str} {scope : Scope} {body : List Stmt} {fa : Addr} {cd : Value} {Q' : Flow → Shared → Prop} (hlaw : LawIs w qual scope body) (H : Here w p loose mean mg mb A L h₀ 650 9500) (hG : AllBare s.gens)
   {la : Addr} {nla : Nat} {ls : List PairR} {M : MgrR} {ps1 ps2 : Array Value} {sc k de ki pi ot to : Option Value} {kn : Tok} {nm : Str} {o2 o4 : Obj} {R : List (Addr × Obj)}
   (F : Fr h₀ L s.heap (lawM sc (some (.ref la)) k de ki pi ot to none none none none)) (D : LawD prog w h₀ L la nla ls M ps1 ps2 R s.heap) (hlen : ls.length ≤ 20)
   (c2 : (L + 1 + 1, o2) ∈ R) (d2 : o2.data = .cell (some (.ref M.a))) (c4 : (L + 1 + 1 + 1 + 1, o4) ∈ R) (d4 : o4.data = .cell (some (.str nm kn))) (hnm : nm ∈ six)
   (ret : ∀ (M' : MgrR) (s' : Shared), Fr h₀ L s'.heap (lawM sc (some (.ref la)) k de ki pi ot to none none none none) → LawD prog w h₀ L la nla ls M' ps1 ps2 R s'.heap → M'.a = M.a → M'.lv = M.lv → AllBare s'.gens → s'.os = s.os → Q' .next s') :
   wpAny (model prog w) A (execs ((loopOf 4 body).drop 2) (envOfC qual scope L fa cd)) Q' (fun _ _ => False) s := by
  obtain ⟨rfl, rfl, rfl⟩ := hlaw.eq (by k_is)
  show wpAny _ _ (execs [_] _) _ _ _
  have hHB := H
  refine H.openC ?_
  clear H
  intro A₀ base outer env B hA hf hke hh hdp hun X T
  obtain ⟨hd', dp, fr, gd, un⟩ := A
  dsimp only at hA hh hdp hun; subst hh
  clear hlaw
  obtain ⟨RR, hRR⟩ : ∃ RR, RR = (la, lsOb ls nla) :: (742, tabObj ps1) :: (906, tabObj ps2) :: (R ++ M.all w.params) := ⟨_, rfl⟩
  have aRR : ∀ q ∈ R, q ∈ RR := fun q hq => hRR ▸ .tail _ (.tail _ (.tail _ (List.mem_append_left _ hq)))
  have mRR : ∀ q ∈ M.all w.params, q ∈ RR := fun q hq => hRR ▸ .tail _ (.tail _ (.tail _ (List.mem_append_right _ hq)))
  have N0 : News h₀ L s.heap RR := hRR ▸ D.N
  have N1 : News h₀ L s.heap ((L + 1 + 1, o2) :: (L + 1 + 1 + 1 + 1, o4) :: RR) := newsSub N0 (List.forall_mem_cons.mpr ⟨aRR _ c2, List.forall_mem_cons.mpr ⟨aRR _ c4, fun q hq => hq⟩⟩)
  have ba : h₀.get? M.a = some (instObj 929 M.d) ∨ (M.a, instObj 929 M.d) ∈ RR := .inr (mRR _ (.head _))
  have bd : h₀.get? M.d = some (mgrDict w.params M.lv M.tl M.u1 M.u2 M.u3 M.u4 M.u5 M.al M.ar) ∨ (M.d, mgrDict w.params M.lv M.tl M.u1 M.u2 M.u3 M.u4 M.u5 M.al M.ar) ∈ RR := .inr (mRR (M.d, M.dob w.params) (.tail _ (.head _)))
  clear N0
  k_steps
  refine Stop.mk ?_
  refine' get_rolesM ?uH ?uF D.O ?uI ?uS ?uN ?_
  case uH => exact hHB.le (by omega) (by omega)
  case uF => exact F
  case uI => exact D.In
  case uS => have := D.roles; omega
  case uN => exact newsSub D.N (List.forall_mem_cons.mpr ⟨.tail _ (.tail _ (.tail _ (List.mem_append_right _ (.tail _ (.tail _ (.tail _ (.head _))))))), List.forall_mem_nil _⟩)
  intro Dr its tok o rs h1 tk1 eD hits nD O1 I1 hrs kb
  have arm : (M.ar, M.oar) ∈ M.all w.params := .tail _ (.tail _ (.tail _ (.head _)))
  have e906 : h1.get? 906 = some (tabObj ps2) := kb _ _ (notin1 (D.dis (906, tabObj ps2) (.tail _ (.tail _ (.head _))) _ arm)) (D.N _ (.tail _ (.tail _ (.head _)))).1
  obtain ⟨D1, F1⟩ := D.grow (h' := h1) F O1 I1 (fun q hq => ⟨by rw [(hrs q hq).1]; exact hnm, (hrs q hq).2⟩) (kb.mono fun q hq => List.mem_cons.mpr (.inl (List.mem_singleton.mp hq))) e906 D.tr2
  have N2 : News h₀ L h1 _ := D1.N
  have N3 := news_cons (p := (Dr, lst its)) eD (Fr.neOf F nD) (none_of_keep F.keep nD) N2
  have len1 : (succN (ls.map PairR.pr) nm).length ≤ 20 := by
    rw [succ_ls, List.length_map]
    exact Nat.le_trans (List.length_filter_le _ _) hlen
  clear N1 N2 ba bd aRR mRR hRR
  k_steps
  refine Stop.mk ?_
  refine' sorted_N_str (ss := succN (ls.map PairR.pr) nm) ?sF ?sN ?sl ?sS ?s64 ?_
  case sF => exact F1
  case sN => exact N3
  case sl => exact ⟨_, eD, rfl, _, rfl⟩
  case sS => rw [hits, D.pairs]; exact (by simpa using strsAre_of (fun n : Str => n) tok (succN (ls.map PairR.pr) nm))
  case s64 => rw [hits, D.pairs, List.length_map]; omega
  intro h2 vs1 ss1 e1 F2 N4 S1 p1 q1
  dsimp only at N4
  generalize h1.objs.size + 1 = A1 at N4 ⊢
  have N5 : News h₀ L h2 ((A1, seqObj "list" vs1.toArray e1) :: (L + 1 + 1 + 1 + 1, o4) :: _) := newsSub N4 (List.forall_mem_cons.mpr ⟨.head _, List.forall_mem_cons.mpr ⟨.tail _ (.tail _ (.tail _ (.tail _ (.tail _ (List.mem_append_left _ c4))))), fun q hq => .tail _ (.tail _ hq)⟩⟩)
  have lsN : ∀ l ∈ ls, h2.get? l.x = some l.ob := fun l hl => (N5 (l.x, l.ob) (.tail _ (.tail _ (.tail _ (.tail _ (.tail _ (List.mem_append_left _ (D1.hls l hl)))))))).1
  clear N3 N4 eD nD hits F1
  k_steps
  refine Stop.mk ?_
  refine' ListComp_P ?k1 ?k2 ?k3 ?k4 ?k5 ?k6 ?k7 ?_ ?k8
  case k1 => with_unfolding_all rfl
  case k2 => decide
  case k3 => rfl
  case k4 => decide
  case k5 => with_unfolding_all rfl
  case k6 => with_unfolding_all rfl
  case k7 => decide
  case k8 => intro _; with_unfolding_all rfl
  k_steps
  refine Stop.mk ⟨la, ls.map fun l => Value.ref l.x, ls.map fun l => (Value.str l.n1 l.k1, Value.str l.n2 l.k2), (fun p => isNm nm p.1), (·.2), rfl, ⟨_, (N5 _ (.tail _ (.tail _ (.head _)))).1, rfl, _, rfl⟩, ?_, by first | rfl | trivial, by simp, ?_, ?_, ?_, ?_⟩
  · rw [List.length_map, sizeLine_eq]; omega
  · intro j v va vb hj hp
    rw [List.getElem?_map] at hj hp
    obtain ⟨l, hl, rfl⟩ := Option.map_eq_some_iff.mp hj
    rw [hl] at hp
    cases hp
    exact ⟨l.x, rfl, _, lsN l (List.mem_of_getElem? hl), rfl, _, rfl⟩
  · intro j va vb C m₂ h5 tk5 hp k5 hC hn ma mb
    rw [List.getElem?_map] at hp
    obtain ⟨l, hl, hq⟩ := Option.map_eq_some_iff.mp hp
    cases hq
    obtain ⟨oC2, eC, nC⟩ := ns_obj hn
    have F6 := F2.keeps k5
    have N6 := news_cons (p := (C, oC2)) eC (Fr.neOf F2 hC) (none_of_keep F2.keep hC) (N5.grown k5)
    clear N5 F2
    k_steps
    exact Stop.mk ⟨rfl, _, _, rfl, Keep.refl _⟩
  · intro j va vb C m₂ h5 tk5 hp hpz k5 hC hn ma mb
    obtain ⟨oC2, eC, nC⟩ := ns_obj hn
    have F6 := F2.keeps k5
    have N6 := news_cons (p := (C, oC2)) eC (Fr.neOf F2 hC) (none_of_keep F2.keep hC) (N5.grown k5)
    clear N5 F2
    k_steps
    exact Stop.mk ⟨rfl, _, _, rfl, Keep.refl _⟩
  intro D5 h5 tk5 k5 hD5 eD5
  rw [comp_succ] at eD5
  have F7 := F2.keeps k5
  have N7 := news_cons (p := (D5, _)) eD5 (Fr.neOf F2 hD5) (none_of_keep F2.keep hD5) (N5.grown k5)
  clear N5 F2 lsN
  k_steps
  refine Stop.mk ?_
  refine' sorted_N_str (ss := (ls.filter fun l => l.n1 == nm).map (·.n2)) ?tF ?tN ?tl ?tS ?t64 ?_
  case tF => exact F7
  case tN => exact N7
  case tl => exact ⟨_, eD5, rfl, _, rfl⟩
  case tS => exact strsAre_of (fun l : PairR => l.n2) (fun l => l.k2) _
  case t64 => rw [List.length_map]; have := List.length_filter_le (fun l : PairR => l.n1 == nm) ls; omega
  intro h6 vs2 ss2 e2 F8 N8 S2 p2 q2
  dsimp only at N8
  generalize h5.objs.size + 1 = A2 at N8 ⊢
  have same1 : ss1 = ss2 := sorted_unique (p1.trans (by rw [succ_ls]; exact p2.symm)) q1 q2
  subst same1
  k_steps
  refine Stop.mk ?_
  refine' strs_ne ?v1 ?v2 S1 S2 ?v3 ?v4 ?_
  case v1 => exact (N8 _ (.tail _ (.tail _ (.head _)))).1
  case v2 => exact (N8 _ (.head _)).1
  case v3 =>
    intro x hx
    obtain ⟨l, hl, rfl⟩ := List.mem_map.mp (p2.mem_iff.mp hx)
    exact (D.okl l (List.mem_filter.mp hl).1).2
  case v4 => k_units
  have D2 : LawD prog w h₀ L la nla ls (M.grow o rs) ps1 ps2 R h6 := D1.at (newsSub N8 fun q hq => .tail _ (.tail _ (.tail _ (.tail _ hq))))
  clear N7 N8 F7 D1 p1 p2 q1 q2 S1 S2 len1
  obtain ⟨RR2, hRR⟩ : ∃ RR, RR = (la, lsOb ls nla) :: (742, tabObj ps1) :: (906, tabObj ps2) :: (R ++ (M.grow o rs).all w.params) := ⟨_, rfl⟩
  have aRR : ∀ q ∈ R, q ∈ RR2 := fun q hq => hRR ▸ .tail _ (.tail _ (.tail _ (List.mem_append_left _ hq)))
  have mRR : ∀ q ∈ (M.grow o rs).all w.params, q ∈ RR2 := fun q hq => hRR ▸ .tail _ (.tail _ (.tail _ (List.mem_append_right _ hq)))
  have N0 : News h₀ L h6 RR2 := hRR ▸ D2.N
  have N1 : News h₀ L h6 ((L + 1 + 1, o2) :: (L + 1 + 1 + 1 + 1, o4) :: RR2) := newsSub N0 (List.forall_mem_cons.mpr ⟨aRR _ c2, List.forall_mem_cons.mpr ⟨aRR _ c4, fun q hq => hq⟩⟩)
  have ba : h₀.get? M.a = some (instObj 929 M.d) ∨ (M.a, instObj 929 M.d) ∈ RR2 := .inr (mRR _ (.head _))
  have bd : h₀.get? M.d = some (mgrDict w.params M.lv M.tl M.u1 M.u2 M.u3 M.u4 M.u5 M.al M.ar) ∨ (M.d, mgrDict w.params M.lv M.tl M.u1 M.u2 M.u3 M.u4 M.u5 M.al M.ar) ∈ RR2 := .inr (mRR (M.d, M.dob w.params) (.tail _ (.head _)))
  clear N0
  k_steps
  refine Stop.mk ?_
  refine' get_usersM (M := M.grow o rs) ?xH ?xF D2.O ?xI ?xS ?xN ?_
  case xH => exact hHB.le (by omega) (by omega)
  case xF => exact F8
  case xI => exact D2.In
  case xS => have := D2.roles; omega
  case xN => exact newsSub D2.N (List.forall_mem_cons.mpr ⟨.tail _ (.tail _ (.tail _ (List.mem_append_right _ (.tail _ (.tail _ (.tail _ (.head _))))))), List.forall_mem_nil _⟩)
  intro Du its2 tok2 oo2 rs2 h7 tk7 eU hitU nU O2 I2 hrs2 kb2
  have arm2 : (M.ar, o) ∈ (M.grow o rs).all w.params := .tail _ (.tail _ (.tail _ (.head _)))
  have e906' : h7.get? 906 = some (tabObj ps2) := kb2 _ _ (notin1 (D2.dis (906, tabObj ps2) (.tail _ (.tail _ (.head _))) _ arm2)) (D2.N _ (.tail _ (.tail _ (.head _)))).1
  obtain ⟨D3, G1⟩ := D2.grow (h' := h7) F8 O2 I2 (fun q hq => ⟨by rw [(hrs2 q hq).1]; exact hnm, (hrs2 q hq).2⟩) (kb2.mono fun q hq => List.mem_cons.mpr (.inl (List.mem_singleton.mp hq))) e906' D2.tr2
  have M2 : News h₀ L h7 _ := D3.N
  have M3 := news_cons (p := (Du, lst its2)) eU (Fr.neOf F8 nU) (none_of_keep F8.keep nU) M2
  have len2 : (predN (ls.map PairR.pr) nm).length ≤ 20 := by
    rw [pred_ls, List.length_map]
    exact Nat.le_trans (List.length_filter_le _ _) hlen
  clear N1 M2 ba bd aRR mRR hRR
  k_steps
  refine Stop.mk ?_
  refine' sorted_N_str (ss := predN (ls.map PairR.pr) nm) ?oF ?oN ?ol ?oS ?o64 ?_
  case oF => exact G1
  case oN => exact M3
  case ol => exact ⟨_, eU, rfl, _, rfl⟩
  case oS => rw [hitU, D2.pairs]; exact (by simpa using strsAre_of (fun n : Str => n) tok2 (predN (ls.map PairR.pr) nm))
  case o64 => rw [hitU, D2.pairs, List.length_map]; omega
  intro h8 vs1 ss1 e3 G2 M4 S1 p1 q1
  dsimp only at M4
  generalize h7.objs.size + 1 = A3 at M4 ⊢
  have M5 : News h₀ L h8 ((A3, seqObj "list" vs1.toArray e3) :: (L + 1 + 1 + 1 + 1, o4) :: _) := newsSub M4 (List.forall_mem_cons.mpr ⟨.head _, List.forall_mem_cons.mpr ⟨.tail _ (.tail _ (.tail _ (.tail _ (.tail _ (List.mem_append_left _ c4))))), fun q hq => .tail _ (.tail _ hq)⟩⟩)
  have lsM : ∀ l ∈ ls, h8.get? l.x = some l.ob := fun l hl => (M5 (l.x, l.ob) (.tail _ (.tail _ (.tail _ (.tail _ (.tail _ (List.mem_append_left _ (D3.hls l hl)))))))).1
  clear M3 M4 eU nU hitU G1
  k_steps
  refine Stop.mk ?_
  refine' ListComp_P ?j1 ?j2 ?j3 ?j4 ?j5 ?j6 ?j7 ?_ ?j8
  case j1 => with_unfolding_all rfl
  case j2 => decide
  case j3 => rfl
  case j4 => decide
  case j5 => with_unfolding_all rfl
  case j6 => with_unfolding_all rfl
  case j7 => decide
  case j8 => intro _; with_unfolding_all rfl
  k_steps
  refine Stop.mk ⟨la, ls.map fun l => Value.ref l.x, ls.map fun l => (Value.str l.n1 l.k1, Value.str l.n2 l.k2), (fun p => isNm nm p.2), (·.1), rfl, ⟨_, (M5 _ (.tail _ (.tail _ (.head _)))).1, rfl, _, rfl⟩, ?_, by first | rfl | trivial, by simp, ?_, ?_, ?_, ?_⟩
  · rw [List.length_map, sizeLine_eq]; omega
  · intro j v va vb hj hp
    rw [List.getElem?_map] at hj hp
    obtain ⟨l, hl, rfl⟩ := Option.map_eq_some_iff.mp hj
    rw [hl] at hp
    cases hp
    exact ⟨l.x, rfl, _, lsM l (List.mem_of_getElem? hl), rfl, _, rfl⟩
  · intro j va vb C m₂ h5 tk5 hp k5 hC hn ma mb
    rw [List.getElem?_map] at hp
    obtain ⟨l, hl, hq⟩ := Option.map_eq_some_iff.mp hp
    cases hq
    obtain ⟨oC2, eC, nC⟩ := ns_obj hn
    have F6 := G2.keeps k5
    have N6 := news_cons (p := (C, oC2)) eC (Fr.neOf G2 hC) (none_of_keep G2.keep hC) (M5.grown k5)
    clear M5 G2
    k_steps
    exact Stop.mk ⟨rfl, _, _, rfl, Keep.refl _⟩
  · intro j va vb C m₂ h5 tk5 hp hpz k5 hC hn ma mb
    obtain ⟨oC2, eC, nC⟩ := ns_obj hn
    have F6 := G2.keeps k5
    have N6 := news_cons (p := (C, oC2)) eC (Fr.neOf G2 hC) (none_of_keep G2.keep hC) (M5.grown k5)
    clear M5 G2
    k_steps
    exact Stop.mk ⟨rfl, _, _, rfl, Keep.refl _⟩
  intro D6 h9 tk9 k9 hD9 eD9
  rw [comp_pred] at eD9
  have G7 := G2.keeps k9
  have M7 := news_cons (p := (D6, _)) eD9 (Fr.neOf G2 hD9) (none_of_keep G2.keep hD9) (M5.grown k9)
  clear M5 G2 lsM
  k_steps
  refine Stop.mk ?_
  refine' sorted_N_str (ss := (ls.filter fun l => l.n2 == nm).map (·.n1)) ?qF ?qN ?ql ?qS ?q64 ?_
  case qF => exact G7
  case qN => exact M7
  case ql => exact ⟨_, eD9, rfl, _, rfl⟩
  case qS => exact strsAre_of (fun l : PairR => l.n1) (fun l => l.k1) _
  case q64 => rw [List.length_map]; have := List.length_filter_le (fun l : PairR => l.n2 == nm) ls; omega
  intro hy vs2 ss2 e4 G8 M8 S2 p2 q2
  dsimp only at M8
  generalize h9.objs.size + 1 = A4 at M8 ⊢
  have same2 : ss1 = ss2 := sorted_unique (p1.trans (by rw [pred_ls]; exact p2.symm)) q1 q2
  subst same2
  k_steps
  refine Stop.mk ?_
  refine' strs_ne ?r1 ?r2 S1 S2 ?r3 ?r4 ?_
  case r1 => exact (M8 _ (.tail _ (.tail _ (.head _)))).1
  case r2 => exact (M8 _ (.head _)).1
  case r3 =>
    intro x hx
    obtain ⟨l, hl, rfl⟩ := List.mem_map.mp (p2.mem_iff.mp hx)
    exact (D.okl l (List.mem_filter.mp hl).1).1
  case r4 => k_units
  have D4 : LawD prog w h₀ L la nla ls ((M.grow o rs).grow oo2 rs2) ps1 ps2 R hy := D3.at (newsSub M8 fun q hq => .tail _ (.tail _ (.tail _ (.tail _ hq))))
  clear M7 M8 G7 D3 p1 p2 q1 q2 S1 S2 len2
  k_steps
  exact ret ((M.grow o rs).grow oo2 rs2) _ G8 D4 rfl rfl hG rfl
end
end Mine
namespace Mine
open PyProof.Rows.LCg PyProof.Rows.LCt
section
variable {prog : Program} {w : World} {p : Program} {loose : List Str} {mean : ExcName → Option Value} {mg mb : Str → Option Value}
  {A : Around} {h₀ : Heap} {L : Addr} {m : Str → Option Value} {s : Shared} {Q : Value → Shared → Prop} {E : Value → Shared → Prop}
variable {Q' : Flow → Shared → Prop}
structure Law2St where
  M : MgrR
  p2 : Array Value
  v4 : Option Value
  v5 : Option Value
  o4 : Obj
  o5 : Obj
structure Law2Ok (prog : Program) (w : World) (h₀ : Heap) (L la : Addr) (nla : Nat) (ls : List PairR) (p1 : Array Value) (R : List (Addr × Obj)) (m : Str → Option Value) (lv : Nat) (a : Addr) (os : OsState) (S : Law2St) (t : Shared) : Prop where
  F : Fr h₀ L t.heap m
  D : LawD prog w h₀ L la nla ls S.M p1 S.p2 ((L + 1 + 1 + 1 + 1, S.o4) :: (L + 1 + 1 + 1 + 1 + 1, S.o5) :: R) t.heap
  d4 : S.o4.data = .cell S.v4
  d5 : S.o5.data = .cell S.v5
  ha : S.M.a = a
  hlv : S.M.lv = (lv : Int)
  hG : AllBare t.gens
  hos : t.os = os
noncomputable def Law2St.led (S : Law2St) (P : Params) (L la : Addr) (nla : Nat) (ls : List PairR) (p1 : Array Value) (R : List (Addr × Obj)) : List (Addr × Obj) := (la, lsOb ls nla) :: (742, tabObj p1) :: (906, tabObj S.p2) :: (((L + 1 + 1 + 1 + 1, S.o4) :: (L + 1 + 1 + 1 + 1 + 1, S.o5) :: R) ++ S.M.all P)
section
variable {la a : Addr} {nla lv : Nat} {ls : List PairR} {p1 : Array Value} {R : List (Addr × Obj)} {os : OsState} {S : Law2St} {t : Shared} {h' : Heap} {tk : Nat}
theorem Law2Ok.but (O : Law2Ok prog w h₀ L la nla ls p1 R m lv a os S t) {I : Addr} (k : KeepBut [I] t.heap h') (i1 : @Ne Nat I L) (i2 : h₀.get? I = none) (i3 : ∀ q ∈ S.led w.params L la nla ls p1 R, @Ne Nat q.1 I) : Law2Ok prog w h₀ L la nla ls p1 R m lv a os S { t with heap := h', toks := tk } :=
  ⟨Fr.but O.F k (notin1 i1.symm) fun b hb => by rw [List.mem_singleton.mp hb]; exact i2, O.D.at (News.but O.D.N k fun q hq => notin1 (i3 q hq)), O.d4, O.d5, O.ha, O.hlv, O.hG, O.hos⟩
theorem Law2Ok.keep (O : Law2Ok prog w h₀ L la nla ls p1 R m lv a os S t) (k : Keep t.heap h') : Law2Ok prog w h₀ L la nla ls p1 R m lv a os S { t with heap := h', toks := tk } :=
  ⟨O.F.keeps k, O.D.at (O.D.N.grown k), O.d4, O.d5, O.ha, O.hlv, O.hG, O.hos⟩
end
theorem law_body2 {qual : Str} {scope : Scope} {body : List Stmt} {fa : Addr} {cd : Value} {Q' : Flow → Shared → Prop} (hlaw : LawIs w qual scope body) (H : Here w p loose mean mg mb A L h₀ 650 9500) (hG : AllBare s.gens)
   {la : Addr} {nla : Nat} {ls : List PairR} {M : MgrR} {ps1 ps2 : Array Value} {sc k de ki pi ot to : Option Value} {tl kn : Tok} {nm : Str} {lv : Nat} {o1 o2 o4 o5 : Obj} {v5 : Option Value} {R : List (Addr × Obj)}
   (F : Fr h₀ L s.heap (lawM sc (some (.ref la)) k de ki pi ot to none none none none)) (D : LawD prog w h₀ L la nla ls M ps1 ps2 ((L + 1 + 1 + 1 + 1 + 1, o5) :: R) s.heap) (d5 : o5.data = .cell v5) (h5 : ∀ q ∈ R, @Ne Nat q.1 (L + 1 + 1 + 1 + 1 + 1)) (hlen : ls.length ≤ 20)
   (hlsR : ∀ l ∈ ls, (l.x, l.ob) ∈ R) (c1 : (L + 1, o1) ∈ R) (d1 : o1.data = .cell (some (.int (lv : Int) tl))) (c2 : (L + 1 + 1, o2) ∈ R) (d2 : o2.data = .cell (some (.ref M.a))) (c4 : (L + 1 + 1 + 1 + 1, o4) ∈ R) (d4 : o4.data = .cell (some (.str nm kn))) (hnm : nm ∈ six) (hlv : M.lv = (lv : Int)) (hlv6 : lv ≤ 14)
   (ret : ∀ (M' : MgrR) (ps2' : Array Value) (o5' : Obj) (v5' : Option Value) (s' : Shared), Fr h₀ L s'.heap (lawM sc (some (.ref la)) k de ki pi ot to none none none none) → LawD prog w h₀ L la nla ls M' ps1 ps2' ((L + 1 + 1 + 1 + 1 + 1, o5') :: R) s'.heap → o5'.data = .cell v5' →
      M'.a = M.a → M'.lv = M.lv → AllBare s'.gens → s'.os = s.os → Q' .next s') :
   wpAny (model prog w) A (execs (loopOf 4 body) (envOfC qual scope L fa cd)) Q' (fun _ _ => False) s := by
  rw [← List.take_append_drop 2 (loopOf 4 body)]
  refine execs_app (segG1 hlaw H hG F D d5 h5 hlen hlsR c1 d1 c2 d2 c4 d4 hnm hlv hlv6 ?_)
  intro M1 p3 o5' v5' s1 F1 D1 d5' a1 l1 G1 os1
  show wpAny _ _ (execs _ _) _ _ _
  refine segG2 hlaw H G1 F1 D1 hlen (.tail _ c2) (by rw [a1]; exact d2) (.tail _ c4) d4 hnm ?_
  intro M2 s2 F2 D2 a2 l2 G2 os2
  exact ret M2 p3 o5' v5' s2 F2 D2 d5' (a2.trans a1) (l2.trans l1) G2 (os2.trans os1)
theorem law_loop2 {qual : Str} {scope : Scope} {body : List Stmt} {fa : Addr} {cd : Value} {Q' : Flow → Shared → Prop} (hlaw : LawIs w qual scope body) (H : Here w p loose mean mg mb A L h₀ 650 9500) (hG : AllBare s.gens)
   {la : Addr} {nla : Nat} {ls : List PairR} {M : MgrR} {ps1 ps2 : Array Value} {sc k de ki pi ot to : Option Value} {tl : Tok} {lv : Nat} {o1 o2 o4 o5 : Obj} {v4 v5 : Option Value} {R : List (Addr × Obj)}
   (F : Fr h₀ L s.heap (lawM sc (some (.ref la)) k de ki pi ot to none none none none)) (D : LawD prog w h₀ L la nla ls M ps1 ps2 ((L + 1 + 1 + 1 + 1, o4) :: (L + 1 + 1 + 1 + 1 + 1, o5) :: R) s.heap) (d4 : o4.data = .cell v4) (d5 : o5.data = .cell v5)
   (hR : ∀ q ∈ R, @Ne Nat q.1 (L + 1 + 1 + 1 + 1) ∧ @Ne Nat q.1 (L + 1 + 1 + 1 + 1 + 1)) (hlen : ls.length ≤ 20) (hlsR : ∀ l ∈ ls, (l.x, l.ob) ∈ R) (c1 : (L + 1, o1) ∈ R) (d1 : o1.data = .cell (some (.int (lv : Int) tl))) (c2 : (L + 1 + 1, o2) ∈ R) (d2 : o2.data = .cell (some (.ref M.a))) (hlv : M.lv = (lv : Int)) (hlv6 : lv ≤ 14)
   (ret : ∀ (ps2' : Array Value) (s' : Shared), Fr h₀ L s'.heap (lawM sc (some (.ref la)) k de ki pi ot to none none none none) → News h₀ L s'.heap [(742, tabObj ps1), (906, tabObj ps2')] → TriplesOk ps2'.toList → AllBare s'.gens → s'.os = s.os → Q' .next s') :
   wpAny (model prog w) A (execs ((body.drop 4).take 1) (envOfC qual scope L fa cd)) Q' (fun _ _ => False) s := by
  have hl0 := hlaw
  obtain ⟨rfl, rfl, rfl⟩ := hlaw.eq (by k_is)
  show wpAny _ _ (execs [_] _) _ _ _
  have hHB := H
  refine H.openC ?_
  clear H
  intro A₀ base outer env B hA hf hke hh hdp hun X T
  obtain ⟨hd', dp, fr, gd, un⟩ := A
  dsimp only at hA hh hdp hun; subst hh
  clear hlaw
  have n45 : @Ne Nat (L + 1 + 1 + 1 + 1 + 1) (L + 1 + 1 + 1 + 1) := fun e => absurd (show L + 1 + 1 + 1 + 1 + 1 = L + 1 + 1 + 1 + 1 from e) (Nat.succ_ne_self _)
  have N := D.N
  refine wpAny_execs_cons ?_
  refine For_S ?_ (by intro _; rfl)
  k_steps
  rename_i ax tkn hx tkx F1 N1 off1
  have D1 := ((D.at (newsSub N1 fun q hq => .tail _ hq)).more (X := [(ax, listOf (its6 tkn).toArray 0)]) fun x hx => by
    rw [List.mem_singleton.mp hx]
    have z := N1 _ (.head _)
    exact ⟨z.2.1, z.2.2, z.1, List.forall_mem_cons.mpr ⟨off1.1, List.forall_mem_cons.mpr ⟨off1.2.1, List.forall_mem_cons.mpr ⟨off1.2.2.1, off1_all off1.2.2.2⟩⟩⟩⟩).mono (R' := (L + 1 + 1 + 1 + 1, o4) :: (L + 1 + 1 + 1 + 1 + 1, o5) :: (ax, listOf (its6 tkn).toArray 0) :: R) (List.forall_mem_cons.mpr ⟨.tail _ (.head _), List.forall_mem_cons.mpr ⟨.tail _ (.tail _ (.head _)), List.forall_mem_cons.mpr ⟨.head _, fun q hq => .tail _ (.tail _ (.tail _ hq))⟩⟩⟩) fun l hl => .tail _ (.tail _ (.tail _ (hlsR l hl)))
  have rax : ∀ q ∈ (ax, listOf (its6 tkn).toArray 0) :: R, @Ne Nat q.1 (L + 1 + 1 + 1 + 1) ∧ @Ne Nat q.1 (L + 1 + 1 + 1 + 1 + 1) := by
    have r := off1_all off1.2.2.2
    exact List.forall_mem_cons.mpr ⟨⟨(r _ (.head _)).symm, (r _ (.tail _ (.head _))).symm⟩, hR⟩
  have O1 : Law2Ok prog w h₀ L la nla ls ps1 ((ax, listOf (its6 tkn).toArray 0) :: R) _ lv M.a s.os ⟨M, ps2, v4, v5, o4, o5⟩ { heap := hx, gens := s.gens, drawn := s.drawn, toks := 0, os := s.os } := ⟨F1, D1, d4, d5, rfl, hlv, hG, rfl⟩
  clear D D1 N1 F1 off1 hR
  refine Stop.mk ⟨ax, its6 tkn, fun I i t => ∃ S' : Law2St, Law2Ok prog w h₀ L la nla ls ps1 ((ax, listOf (its6 tkn).toArray 0) :: R) (lawM sc (some (.ref la)) k de ki pi ot to none none none none) lv M.a s.os S' t ∧ (@Ne Nat I L ∧ h₀.get? I = none ∧ ∀ q ∈ S'.led w.params L la nla ls ps1 ((ax, listOf (its6 tkn).toArray 0) :: R), @Ne Nat q.1 I), rfl, ⟨_, (O1.D.N _ (.tail _ (.tail _ (.tail _ (.tail _ (.tail _ (.head _))))))).1, rfl, _, rfl⟩, by first | rfl | trivial, ?_, ?_, ?_, ?_, ?_⟩
  · intro I h' hI k'
    refine ⟨_, O1.keep k', Fr.neOf O1.F hI, none_of_keep O1.F.keep hI, fun q hq e => ?_⟩
    have := (O1.D.N q hq).1
    rw [show q.1 = I from e, hI] at this; cases this
  · rintro I i t h' tk ⟨S', O', i1, i2, i3⟩ k'
    exact ⟨S', O'.but k' i1 i2 i3, i1, i2, i3⟩
  · rintro I i t ⟨S', O', _⟩
    exact ⟨_, (O'.D.N _ (.tail _ (.tail _ (.tail _ (.tail _ (.tail _ (.head _))))))).1, rfl, _, rfl⟩
  · rintro I i v t hv ⟨S', O', i1, i2, i3⟩ ⟨oI, eI⟩
    obtain ⟨hi, rfl, hb⟩ := its6_at hv
    have n4 := O'.D.N (L + 1 + 1 + 1 + 1, S'.o4) (.tail _ (.tail _ (.tail _ (.head _))))
    refine wpAny_assign_Name (wpAny_storeName_cell (by with_unfolding_all rfl) (by with_unfolding_all rfl) (by with_unfolding_all rfl) ⟨_, n4.1, O'.d4⟩ (fun h4 hc4 hs4 => ?_))
    obtain ⟨o4', g4, e4⟩ := hc4
    have k4 : KeepBut [L + 1 + 1 + 1 + 1] t.heap h4 := fun b o n e => (hs4.2 b (fun q => n (List.mem_singleton.mpr q))).trans e
    have F4 := Fr.but O'.F k4 (notin1 n4.2.1.symm) fun b hb => by rw [List.mem_singleton.mp hb]; exact n4.2.2
    have offc := O'.D.off (List.forall_mem_cons.mpr ⟨n45, fun q hq => (rax q hq).1⟩)
    have hls' : ∀ l ∈ ls, (l.x, l.ob) ∈ (L + 1 + 1 + 1 + 1 + 1, S'.o5) :: (ax, listOf (its6 tkn).toArray 0) :: R := fun l hl => .tail _ (.tail _ (hlsR l hl))
    have D4 := O'.D.recell (h' := h4) (o' := o4') hls' (List.forall_mem_cons.mpr ⟨⟨g4, n4.2⟩, fun q hq => ⟨k4 _ _ (notin1 (offc q hq)) (O'.D.cell_first q (.tail _ hq)).1, (O'.D.cell_first q (.tail _ hq)).2⟩⟩)
    have iI : @Ne Nat I (L + 1 + 1 + 1 + 1) := (i3 _ (.tail _ (.tail _ (.tail _ (.head _))))).symm
    have eI4 : h4.get? I = some oI := k4 I oI (notin1 iI) eI
    have D5 := (D4.more (X := [(I, oI)]) fun x hx => by
      rw [List.mem_singleton.mp hx]
      exact ⟨i1, i2, eI4, List.forall_mem_cons.mpr ⟨i3 _ (.head _), List.forall_mem_cons.mpr ⟨i3 _ (.tail _ (.head _)), List.forall_mem_cons.mpr ⟨i3 _ (.tail _ (.tail _ (.head _))), List.forall_mem_cons.mpr ⟨iI.symm, fun q hq => i3 q (.tail _ (.tail _ (.tail _ (.tail _ hq))))⟩⟩⟩⟩⟩).mono (R' := (L + 1 + 1 + 1 + 1 + 1, S'.o5) :: (L + 1 + 1 + 1 + 1, o4') :: (I, oI) :: (ax, listOf (its6 tkn).toArray 0) :: R)
      (List.forall_mem_cons.mpr ⟨.tail _ (.tail _ (.head _)), List.forall_mem_cons.mpr ⟨.tail _ (.head _), List.forall_mem_cons.mpr ⟨.head _, fun q hq => .tail _ (.tail _ (.tail _ hq))⟩⟩⟩) fun l hl => .tail _ (.tail _ (.tail _ (.tail _ (hlsR l hl))))
    have i5 : @Ne Nat I (L + 1 + 1 + 1 + 1 + 1) := (i3 _ (.tail _ (.tail _ (.tail _ (.tail _ (.head _)))))).symm
    refine law_body2 (R := (L + 1 + 1 + 1 + 1, o4') :: (I, oI) :: (ax, listOf (its6 tkn).toArray 0) :: R) hl0 hHB O'.hG F4 D5 O'.d5 (List.forall_mem_cons.mpr ⟨n45.symm, List.forall_mem_cons.mpr ⟨i5, fun q hq => (rax q hq).2⟩⟩) hlen (fun l hl => .tail _ (.tail _ (.tail _ (hlsR l hl)))) (.tail _ (.tail _ (.tail _ c1))) d1 (.tail _ (.tail _ (.tail _ c2))) (by rw [O'.ha]; exact d2) (.head _) e4 (nm6_in hi) O'.hlv hlv6 ?_
    intro M' ps2' o5' v5' s' F6 D6 d6 a6 l6 G6 os6
    show Stop _
    have iN := D6.N (I, oI) (.tail _ (.tail _ (.tail _ (.tail _ (.tail _ (.head _))))))
    have D7 := D6.mono (R' := (L + 1 + 1 + 1 + 1, o4') :: (L + 1 + 1 + 1 + 1 + 1, o5') :: (ax, listOf (its6 tkn).toArray 0) :: R) (List.forall_mem_cons.mpr ⟨.tail _ (.head _), List.forall_mem_cons.mpr ⟨.head _, fun q hq => .tail _ (.tail _ (.tail _ hq))⟩⟩) fun l hl => .tail _ (.tail _ (.tail _ (hlsR l hl)))
    have dI : ∀ q ∈ M'.all w.params, @Ne Nat q.1 I := fun q hq => (D6.dis (I, oI) (.tail _ (.tail _ (.tail _ (.tail _ (.tail _ (.head _)))))) q hq).symm
    refine Stop.mk ⟨⟨⟨M', ps2', _, v5', o4', o5'⟩, ⟨F6, D7, e4, d6, a6.trans O'.ha, l6.trans O'.hlv, G6, os6.trans O'.hos⟩, i1, i2, ?_⟩, fun o e => ?_⟩
    · refine List.forall_mem_cons.mpr ⟨i3 _ (.head _), List.forall_mem_cons.mpr ⟨i3 (742, tabObj ps1) (.tail _ (.head _)), List.forall_mem_cons.mpr ⟨i3 (906, tabObj S'.p2) (.tail _ (.tail _ (.head _))), List.forall_mem_cons.mpr ⟨iI.symm, List.forall_mem_cons.mpr ⟨i5.symm, fun q hq => ?_⟩⟩⟩⟩⟩
      rcases List.mem_append.mp hq with hq | hq
      · exact i3 q (.tail _ (.tail _ (.tail _ (.tail _ (.tail _ (List.mem_append_left _ hq))))))
      · exact dI q hq
    · rw [eI] at e; cases e; exact iN.1
  · rintro I t ⟨S', O', _⟩
    k_steps
    exact ret S'.p2 t O'.F (newsSub O'.D.N (List.forall_mem_cons.mpr ⟨.tail _ (.head _), List.forall_mem_cons.mpr ⟨.tail _ (.tail _ (.head _)), List.forall_mem_nil _⟩⟩)) O'.D.tr2 O'.hG O'.hos
end
end Mine
namespace Mine
open PyProof.Rows.LCg PyProof.Rows.LCt
section
variable {prog : Program} {w : World} {p : Program} {loose : List Str} {mean : ExcName → Option Value} {mg mb : Str → Option Value}
  {A : Around} {h₀ : Heap} {L : Addr} {m : Str → Option Value} {s : Shared} {Q : Value → Shared → Prop} {E : Value → Shared → Prop}
variable {Q' : Flow → Shared → Prop}
noncomputable def chainP (i : Nat) : List (Str × Str) := (List.range i).map fun j => (nmC j, nmC (j + 1))
theorem chainP_new {i : Nat} (hi : i < 14) : (nmC i, nmC (i + 1)) ∉ chainP i := fun h => by
  obtain ⟨j, hj, e⟩ := List.mem_map.mp h
  have hj := List.mem_range.mp hj
  have := nmC_inj j (by omega) i (by omega) (Prod.mk.inj e).1
  omega
theorem chainP_succ (i : Nat) : chainP (i + 1) = chainP i ++ [(nmC i, nmC (i + 1))] := by
  unfold chainP
  rw [List.range_succ, List.map_append]; rfl
theorem segJ {qual : Str} {scope : Scope} {body : List Stmt} {fa : Addr} {cd : Value} {Q' : Flow → Shared → Prop} (hlaw : LawIs w qual scope body) (H : Here w p loose mean mg mb A L h₀ 650 9500)
   {sc lk de ki pi ot to dpv : Option Value} {i : Nat} {tk : Tok} {M : MgrR} {t1 t2 : Array Value} {R : List (Addr × Obj)} (hi : i < 14)
   (F : Fr h₀ L s.heap (lawM sc lk (some (.int (i : Int) tk)) de ki pi ot to dpv (some (.ref M.a)) none none)) (D : ChS prog w h₀ L M t1 t2 R s.heap) (hp : M.pairs = chainP i) (hln : M.links.length = i)
   (ret : ∀ (M' : MgrR) h' tk', Fr h₀ L h' (lawM sc lk (some (.int (i : Int) tk)) de ki pi ot to dpv (some (.ref M.a)) none none) → ChS prog w h₀ L M' t1 t2 R h' → M'.pairs = chainP (i + 1) → M'.links.length = i + 1 → M'.a = M.a → M'.lv = M.lv → Q' .next { s with heap := h', toks := tk' }) :
   wpAny (model prog w) A (execs (loopOf 7 body) (envOfC qual scope L fa cd)) Q' (fun _ _ => False) s := by
  obtain ⟨rfl, rfl, rfl⟩ := hlaw.eq (by k_is)
  show wpAny _ _ (execs [_] _) _ _ _
  have hHB := H
  refine H.openC ?_
  clear H
  intro A₀ base outer env B hA hf hke hh hdp hun X T
  obtain ⟨hd', dp, fr, gd, un⟩ := A
  dsimp only at hA hh hdp hun; subst hh
  clear hlaw
  obtain ⟨RR, hRR⟩ : ∃ RR, RR = (742, tabObj t1) :: (906, tabObj t2) :: (R ++ M.all w.params) := ⟨_, rfl⟩
  have N : News h₀ L s.heap RR := hRR ▸ D.N
  have mRR : ∀ q ∈ M.all w.params, q ∈ RR := fun q hq => hRR ▸ .tail _ (.tail _ (List.mem_append_right _ hq))
  have ba : h₀.get? M.a = some (instObj 929 M.d) ∨ (M.a, instObj 929 M.d) ∈ RR := .inr (mRR _ (.head _))
  have bd : h₀.get? M.d = some (mgrDict w.params M.lv M.tl M.u1 M.u2 M.u3 M.u4 M.u5 M.al M.ar) ∨ (M.d, mgrDict w.params M.lv M.tl M.u1 M.u2 M.u3 M.u4 M.u5 M.al M.ar) ∈ RR := .inr (mRR (M.d, M.dob w.params) (.tail _ (.head _)))
  k_steps
  rename Fr h₀ L _ _ => F1
  refine Stop.mk ?_
  have ecast : toString ((i : Int) + 1) = toString ((i + 1 : Nat) : Int) := rfl
  rw [ecast]
  refine' add_linkM (n1 := nmC i) (n2 := nmC (i + 1)) ?dH ?dF D.O ?dI ?dSz ?dLs ?dNew ?dN ?_
  case dH => exact hHB.le (by omega) (by omega)
  case dF => exact F1
  case dI => exact D.In
  case dSz => have := D.roles; omega
  case dLs => omega
  case dNew => rw [hp]; exact chainP_new hi
  case dN =>
    refine newsSub D.N fun q hq => .tail _ (.tail _ (List.mem_append_right _ ?_))
    refine memc hq ?_ fun hq => ?_
    · exact .tail _ (.tail _ (.head _))
    refine memc hq ?_ fun hq => ?_
    · exact .tail _ (.tail _ (.tail _ (.head _)))
    · exact MgrR.dic_all q hq
  intro M' h1 tk1 O' I' hp' hl' hE hll hnm kb nw
  have key : (906 : Addr) ∉ M.muts := fun hq => by
    obtain ⟨p, hp, e⟩ := M.muts_all (P := w.params) _ hq
    exact D.dis (906, tabObj t2) (.tail _ (.head _)) p hp e.symm
  obtain ⟨D1, F2⟩ := D.step F1 kb (fun b hb => .inr (M.muts_all _ hb)) O' I' (fun n hn => by
    rcases hnm n hn with h | rfl | rfl
    · exact D.names n h
    · exact nmC_mem (by omega)
    · exact nmC_mem (by omega)) nw (kb _ _ key (D.N _ (.tail _ (.head _))).1) D.tr2
  clear N ba bd mRR hRR D
  k_steps
  exact ret M' _ _ F2 D1 (by rw [hp', hp, chainP_succ]) (by rw [hll, hln]) hE.1 hE.2.2.2.2
end
end Mine
namespace Mine
open PyProof.Rows.LCg PyProof.Rows.LCt
section
variable {prog : Program} {w : World} {p : Program} {loose : List Str} {mean : ExcName → Option Value} {mg mb : Str → Option Value}
  {A : Around} {h₀ : Heap} {L : Addr} {m : Str → Option Value} {s : Shared} {Q : Value → Shared → Prop} {E : Value → Shared → Prop}
variable {Q' : Flow → Shared → Prop}
structure Ch3 (prog : Program) (w : World) (h₀ : Heap) (L : Addr) (sc lk de ki pi ot to dpv : Option Value) (a : Addr) (lv : Int) (g : Array GenState) (os : OsState) (t1 t2 : Array Value) (R : List (Addr × Obj)) (i : Nat) (kv : Option Value) (M : MgrR) (t : Shared) : Prop where
  F : Fr h₀ L t.heap (lawM sc lk kv de ki pi ot to dpv (some (.ref a)) none none)
  D : ChS prog w h₀ L M t1 t2 R t.heap
  hp : M.pairs = chainP i
  hln : M.links.length = i
  ha : M.a = a
  hlv : M.lv = lv
  hg : t.gens = g
  hos : t.os = os
theorem law_loop3 {qual : Str} {scope : Scope} {body : List Stmt} {fa : Addr} {cd : Value} {Q' : Flow → Shared → Prop} (hlaw : LawIs w qual scope body) (H : Here w p loose mean mg mb A L h₀ 650 9500)
   {sc lk de ki pi ot to dpv kv : Option Value} {M : MgrR} {t1 t2 : Array Value} {a : Addr} {lv : Int}
   (O : Ch3 prog w h₀ L sc lk de ki pi ot to dpv a lv s.gens s.os t1 t2 [] 0 kv M s)
   (ret : ∀ (kv' : Option Value) (M' : MgrR) (s' : Shared), Ch3 prog w h₀ L sc lk de ki pi ot to dpv a lv s.gens s.os t1 t2 [] 14 kv' M' s' → Q' .next s') :
   wpAny (model prog w) A (execs ((body.drop 7).take 1) (envOfC qual scope L fa cd)) Q' (fun _ _ => False) s := by
  have hl0 := hlaw
  obtain ⟨rfl, rfl, rfl⟩ := hlaw.eq (by k_is)
  show wpAny _ _ (execs [_] _) _ _ _
  have hHB := H
  refine H.openC ?_
  clear H
  intro A₀ base outer env B hA hf hke hh hdp hun X T
  obtain ⟨hd', dp, fr, gd, un⟩ := A
  dsimp only at hA hh hdp hun; subst hh
  clear hlaw
  have F := O.F
  have N := O.D.N
  refine wpAny_execs_cons ?_
  refine For_R ?_ (by intro _; rfl)
  k_steps
  rename IsRange _ _ _ _ _ _ _ _ => R2
  rename (∀ b o, _ → _) => kr
  have O1 : Ch3 prog w h₀ L sc lk de ki pi ot to dpv a lv s.gens s.os t1 t2 [] 0 kv M { heap := _, gens := s.gens, drawn := s.drawn, toks := 0, os := s.os } := ⟨O.F.keeps kr, O.D.at (O.D.N.grown kr), O.hp, O.hln, O.ha, O.hlv, rfl, rfl⟩
  clear O kr
  refine Stop.mk ⟨_, 14, _, _, _, fun I i t => ∃ q : Option Value × MgrR, Ch3 prog w h₀ L sc lk de ki pi ot to dpv a lv s.gens s.os t1 t2 [] i q.1 q.2 t ∧ (@Ne Nat I L ∧ h₀.get? I = none ∧ ∀ p ∈ (742, tabObj t1) :: (906, tabObj t2) :: q.2.all w.params, @Ne Nat p.1 I), rfl, R2, by decide, by decide, by first | rfl | trivial, ?_, ?_, ?_, ?_⟩
  · intro I h' hI k
    exact ⟨(kv, M), ⟨O1.F.keeps k, O1.D.at (O1.D.N.grown k), O1.hp, O1.hln, O1.ha, O1.hlv, rfl, rfl⟩, Fr.neOf O1.F hI, none_of_keep O1.F.keep hI, led_ne O1.D.N hI⟩
  · rintro I i t h' tk ⟨q, O', i1, i2, i3⟩ k
    exact ⟨q, ⟨Fr.but O'.F k (notin1 i1.symm) fun b hb => by rw [List.mem_singleton.mp hb]; exact i2, O'.D.at (News.but O'.D.N k fun p hp => notin1 (i3 p hp)), O'.hp, O'.hln, O'.ha, O'.hlv, O'.hg, O'.hos⟩, i1, i2, i3⟩
  · rintro I i tk t hi ⟨⟨kv', M'⟩, O', i1, i2, i3⟩ ⟨oI, eI⟩
    dsimp only at O'
    refine wpAny_assign_Name (wpAny_storeName_local (by with_unfolding_all rfl) O'.F.ns (fun h4 hn4 hs4 => ?_) (by with_unfolding_all rfl))
    have F4 : Fr h₀ L h4 (lawM sc lk (some (.int (i : Int) tk)) de ki pi ot to dpv (some (.ref M'.a)) none none) := by
      rw [O'.ha]
      exact Fr.law (m := fun z => if z = ("k" : Str) then some (.int (i : Int) tk) else lawM sc lk kv' de ki pi ot to dpv (some (.ref a)) none none z) (O'.F.set hn4 hs4) (off_set (by decide) fun z hz => lawM_off hz)
    have k4 : KeepBut [L] t.heap h4 := fun b o n e => (hs4.2 b (fun q => n (List.mem_singleton.mpr q))).trans e
    have D4 := O'.D.at (News.but O'.D.N k4 fun q hq => notin1 (O'.D.N q hq).2.1)
    have D5 := D4.more i1 i2 i3 (k4 I oI (notin1 i1) eI)
    refine segJ hl0 hHB (by omega) F4 D5 O'.hp O'.hln ?_
    intro M'' h' tk' F6 D6 hp6 hl6 ha6 hv6
    show Stop _
    obtain ⟨D7, off7, e7⟩ := D6.less
    refine Stop.mk ⟨⟨(_, M''), ⟨by rw [O'.ha] at F6; exact F6, D7, hp6, hl6, ha6.trans O'.ha, hv6.trans O'.hlv, O'.hg, O'.hos⟩, i1, i2, off7⟩, fun o e => ?_⟩
    rw [eI] at e; cases e; exact e7
  · rintro I t ⟨q, O', _⟩
    k_steps
    exact ret q.1 q.2 t O'
end
end Mine
namespace Mine
open PyProof.Rows.LCg PyProof.Rows.LCt
section
variable {prog : Program} {w : World} {p : Program} {loose : List Str} {mean : ExcName → Option Value} {mg mb : Str → Option Value}
  {A : Around} {h₀ : Heap} {L : Addr} {m : Str → Option Value} {s : Shared} {Q : Value → Shared → Prop} {E : Value → Shared → Prop}
variable {Q' : Flow → Shared → Prop}
theorem segK {qual : Str} {scope : Scope} {body : List Stmt} {fa : Addr} {cd : Value} {Q' : Flow → Shared → Prop} (hlaw : LawIs w qual scope body) (H : Here w p loose mean mg mb A L h₀ 650 9500) (hG : AllBare s.gens)
   {sc : Addr} {vs : List Value} {ns : List Int} (hl : h₀.IsList sc vs.toArray) (hI : IntsAre vs ns) (hlen : ns.length ≤ 63) (hlay : PyData.layable0 (.list (ns.map .int)) = true)
   {lk de ki pi ot to lo hi : Option Value} {k dv : Nat} {tkk t0 : Tok} {M : MgrR} {t1 t2 : Array Value} {R : List (Addr × Obj)} (hk : k < 3) (hdv : dv ≤ 14)
   (F : Fr h₀ L s.heap (lawM (some (.ref sc)) lk (some (.int (k : Int) tkk)) de ki pi ot to (some (.int (dv : Int) t0)) (some (.ref M.a)) lo hi)) (D : ChS prog w h₀ L M t1 t2 R s.heap) (hp : M.pairs = chainP 14) (hlv : M.lv = (if dv = 0 then 10 else (dv : Int)))
   (ret : ∀ (M' : MgrR) (t2' : Array Value) (de' lo' hi' : Option Value) (s' : Shared), Fr h₀ L s'.heap (lawM (some (.ref sc)) lk (some (.int (k : Int) tkk)) de' ki pi ot to (some (.int (dv : Int) t0)) (some (.ref M.a)) lo' hi') → ChS prog w h₀ L M' t1 t2' R s'.heap → M'.pairs = chainP 14 → M'.a = M.a → M'.lv = M.lv → AllBare s'.gens → s'.os = s.os → Q' .next s') :
   wpAny (model prog w) A (execs (loopOf 8 body) (envOfC qual scope L fa cd)) Q' (fun _ _ => False) s := by
  obtain ⟨rfl, rfl, rfl⟩ := hlaw.eq (by k_is)
  show wpAny _ _ (execs [_, _, _] _) _ _ _
  have hHB := H
  refine H.openC ?_
  clear H
  intro A₀ base outer env B hA hf hke hh hdp hun X T
  obtain ⟨hd', dp, fr, gd, un⟩ := A
  dsimp only at hA hh hdp hun; subst hh
  clear hlaw
  obtain ⟨RR, hRR⟩ : ∃ RR, RR = (742, tabObj t1) :: (906, tabObj t2) :: (R ++ M.all w.params) := ⟨_, rfl⟩
  have N : News h₀ L s.heap RR := hRR ▸ D.N
  have mRR : ∀ q ∈ M.all w.params, q ∈ RR := fun q hq => hRR ▸ .tail _ (.tail _ (List.mem_append_right _ hq))
  have ba : h₀.get? M.a = some (instObj 929 M.d) ∨ (M.a, instObj 929 M.d) ∈ RR := .inr (mRR _ (.head _))
  have bd : h₀.get? M.d = some (mgrDict w.params M.lv M.tl M.u1 M.u2 M.u3 M.u4 M.u5 M.al M.ar) ∨ (M.d, mgrDict w.params M.lv M.tl M.u1 M.u2 M.u3 M.u4 M.u5 M.al M.ar) ∈ RR := .inr (mRR (M.d, M.dob w.params) (.tail _ (.head _)))
  have f0 : 0 ≤ (numN ns (14 + k)).fmod 15 := Int.fmod_nonneg_of_pos _ (by decide)
  have f1 : (numN ns (14 + k)).fmod 15 < 15 := Int.fmod_lt_of_pos _ (by decide)
  have g0 : 0 ≤ ((numN ns (14 + k)).fdiv 15).fmod 15 := Int.fmod_nonneg_of_pos _ (by decide)
  have g1 : ((numN ns (14 + k)).fdiv 15).fmod 15 < 15 := Int.fmod_lt_of_pos _ (by decide)
  k_steps
  rename Fr h₀ L _ _ => F1
  rename News h₀ L _ _ => N1
  have D0 := D.at (hRR ▸ newsSub N1 fun q hq => .tail _ hq)
  generalize (numN ns (14 + k)).fmod 15 = low at f0 f1 F1 ⊢
  generalize ((numN ns (14 + k)).fdiv 15).fmod 15 = high at g0 g1 F1 ⊢
  obtain ⟨ln, rfl⟩ : ∃ n : Nat, low = (n : Int) := ⟨low.toNat, ar_nat (by assumption)⟩
  obtain ⟨hn, rfl⟩ : ∃ n : Nat, high = (n : Int) := ⟨high.toNat, ar_nat (by assumption)⟩
  clear N1 ba bd mRR hRR D
  obtain ⟨kk, hkk, kk14⟩ : ∃ kk : Nat, M.lv = (kk : Int) ∧ kk ≤ 14 ∧ ((kk : Int) = if dv = 0 then 10 else (dv : Int)) := ⟨if dv = 0 then 10 else dv, by rw [hlv]; split <;> rfl, by split <;> omega, by split <;> rfl⟩
  refine Stop.mk ?_
  refine' has_linkM (n1 := nmC ln) (n2 := nmC hn) ?dH ?dF ?dG D0.tr2 D0.O ?dI ?dSz hkk ?dk ?dN ?_
  case dH => exact hHB.le (by omega) (by omega)
  case dF => exact F1
  case dG => exact hG
  case dI => exact D0.In
  case dSz => have := D0.roles; omega
  case dk => omega
  case dN => exact newsSub D0.N (List.forall_mem_cons.mpr ⟨.tail _ (.tail _ (List.mem_append_right _ (.tail _ (.tail _ (.tail _ (.head _)))))), List.forall_mem_cons.mpr ⟨.tail _ (.head _), List.forall_mem_nil _⟩⟩)
  intro b o rs s' ps' hb O' I' hrs kb e906 tr' hG' os'
  have hb' : b = (decide ((0 : Int) ≤ (hn : Int) - ln) && decide ((hn : Int) - ln < kk)) := hb.trans (by rw [hp]; exact chain_has nmC_inj (by omega) (by omega))
  obtain ⟨D1, F2⟩ := D0.step F1 kb (fun b hb => by
    refine memc hb ?_ fun hb => ?_
    · exact .inr ⟨(M.ar, M.oar), .tail _ (.tail _ (.tail _ (.head _))), rfl⟩
    · exact .inl (List.mem_singleton.mp hb)) O' I' (fun n hn' => by
    unfold MgrR.names MgrR.grow at hn'
    rw [List.map_append] at hn'
    rcases List.mem_append.mp hn' with h | h
    · exact D0.names n h
    · obtain ⟨q, hq, rfl⟩ := List.mem_map.mp h
      rcases (hrs q hq).1 with e | e <;> (rw [e]; exact nmC_mem (by omega))) (MgrR.grow_new fun q hq => (hrs q hq).2) e906 tr'
  have N2 := D1.N
  clear D0 F1 O' I' hrs kb e906 hb
  obtain ⟨hs', gs', ds', tks', oss'⟩ := s'
  dsimp only at *
  have kq0 : (dv : Int) = 0 → (kk : Int) = 10 := fun e => by rw [kk14.2, if_pos (by omega)]
  have kq1 : (dv : Int) ≠ 0 → (kk : Int) = dv := fun e => by rw [kk14.2, if_neg (by omega)]
  have fin : ∀ {hx : Heap} {mx : Str → Option Value} {tkx : Nat}, Fr h₀ L hx mx → (mx "script" = some (.ref sc) ∧ mx "links" = lk ∧ mx "k" = some (.int (k : Int) tkk) ∧ mx "kind" = ki ∧ mx "pick" = pi ∧ mx "other" = ot ∧ mx "told" = to ∧ mx "depth" = some (.int (dv : Int) t0) ∧ mx "chain" = some (.ref M.a)) → (∀ z, z ∉ lawN → mx z = none) → News h₀ L hx ((742, tabObj t1) :: (906, tabObj ps') :: (R ++ (M.grow o rs).all w.params)) → Q' .next { heap := hx, gens := gs', drawn := ds', toks := tkx, os := oss' } := by
    intro hx mx tkx Fx em om Nx
    have Fx' := Fr.law Fx om
    rw [em.1, em.2.1, em.2.2.1, em.2.2.2.1, em.2.2.2.2.1, em.2.2.2.2.2.1, em.2.2.2.2.2.2.1, em.2.2.2.2.2.2.2.1, em.2.2.2.2.2.2.2.2] at Fx'
    exact ret (M.grow o rs) ps' _ _ _ _ Fx' (D1.at Nx) hp rfl rfl hG' os'
  k_steps
  · exfalso
    rename (_ != _) = true => hx
    refine bne_iff_ne.mp hx ?_
    rw [hb', Bool.eq_iff_iff, Bool.and_eq_true, decide_eq_true_eq, decide_eq_true_eq, decide_eq_true_eq]
    have := kq0 (by assumption)
    omega
  · rename Fr h₀ L _ _ => F9
    exact fin F9 ⟨rfl, rfl, rfl, rfl, rfl, rfl, rfl, rfl, rfl⟩ (off_set (by decide) (off_set (by decide) (off_set (by decide) fun z hz => lawM_off hz))) (by assumption)
  · exfalso
    rename (_ != _) = true => hx
    refine bne_iff_ne.mp hx ?_
    rw [hb', Bool.eq_iff_iff, Bool.and_eq_true, decide_eq_true_eq, decide_eq_true_eq, decide_eq_true_eq]
    have := kq1 (by assumption)
    omega
  · rename Fr h₀ L _ _ => F9
    exact fin F9 ⟨rfl, rfl, rfl, rfl, rfl, rfl, rfl, rfl, rfl⟩ (off_set (by decide) (off_set (by decide) (off_set (by decide) fun z hz => lawM_off hz))) (by assumption)
  · exfalso
    rename (_ != _) = true => hx
    refine bne_iff_ne.mp hx ?_
    rw [hb', Bool.eq_iff_iff, Bool.and_eq_true, decide_eq_true_eq, decide_eq_true_eq]
    skip
    omega
  · rename Fr h₀ L _ _ => F9
    exact fin F9 ⟨rfl, rfl, rfl, rfl, rfl, rfl, rfl, rfl, rfl⟩ (off_set (by decide) (off_set (by decide) (off_set (by decide) fun z hz => lawM_off hz))) (by assumption)
end
end Mine
namespace Mine
open PyProof.Rows.LCg PyProof.Rows.LCt
section
variable {prog : Program} {w : World} {p : Program} {loose : List Str} {mean : ExcName → Option Value} {mg mb : Str → Option Value}
  {A : Around} {h₀ : Heap} {L : Addr} {m : Str → Option Value} {s : Shared} {Q : Value → Shared → Prop} {E : Value → Shared → Prop}
variable {Q' : Flow → Shared → Prop}
structure Law4St where
  M : MgrR
  t2 : Array Value
  kv : Option Value
  de : Option Value
  lo : Option Value
  hi : Option Value
structure Ch4 (prog : Program) (w : World) (h₀ : Heap) (L : Addr) (sc lk ki pi ot to dpv : Option Value) (a : Addr) (lv : Int) (os : OsState) (t1 : Array Value) (S : Law4St) (t : Shared) : Prop where
  F : Fr h₀ L t.heap (lawM sc lk S.kv S.de ki pi ot to dpv (some (.ref a)) S.lo S.hi)
  D : ChS prog w h₀ L S.M t1 S.t2 [] t.heap
  hp : S.M.pairs = chainP 14
  ha : S.M.a = a
  hlv : S.M.lv = lv
  hg : AllBare t.gens
  hos : t.os = os
theorem law_loop4 {qual : Str} {scope : Scope} {body : List Stmt} {fa : Addr} {cd : Value} {Q' : Flow → Shared → Prop} (hlaw : LawIs w qual scope body) (H : Here w p loose mean mg mb A L h₀ 650 9500)
   {sc : Addr} {vs : List Value} {ns : List Int} (hl : h₀.IsList sc vs.toArray) (hI : IntsAre vs ns) (hlen : ns.length ≤ 63) (hlay : PyData.layable0 (.list (ns.map .int)) = true)
   {lk ki pi ot to : Option Value} {t1 : Array Value} {a : Addr} {lv : Int} {dv : Nat} {t0 : Tok} {S : Law4St} (hdv : dv ≤ 14) (hlv : lv = (if dv = 0 then 10 else (dv : Int)))
   (O : Ch4 prog w h₀ L (some (.ref sc)) lk ki pi ot to (some (.int (dv : Int) t0)) a lv s.os t1 S s)
   (ret : ∀ (S' : Law4St) (s' : Shared), Ch4 prog w h₀ L (some (.ref sc)) lk ki pi ot to (some (.int (dv : Int) t0)) a lv s.os t1 S' s' → Q' .next s') :
   wpAny (model prog w) A (execs ((body.drop 8).take 1) (envOfC qual scope L fa cd)) Q' (fun _ _ => False) s := by
  have hl0 := hlaw
  obtain ⟨rfl, rfl, rfl⟩ := hlaw.eq (by k_is)
  show wpAny _ _ (execs [_] _) _ _ _
  have hHB := H
  refine H.openC ?_
  clear H
  intro A₀ base outer env B hA hf hke hh hdp hun X T
  obtain ⟨hd', dp, fr, gd, un⟩ := A
  dsimp only at hA hh hdp hun; subst hh
  clear hlaw
  have F := O.F
  have N := O.D.N
  refine wpAny_execs_cons ?_
  refine For_R ?_ (by intro _; rfl)
  k_steps
  rename IsRange _ _ _ _ _ _ _ _ => R2
  rename (∀ b o, _ → _) => kr
  have O1 : Ch4 prog w h₀ L (some (.ref sc)) lk ki pi ot to (some (.int (dv : Int) t0)) a lv s.os t1 S { heap := _, gens := s.gens, drawn := s.drawn, toks := 0, os := s.os } := ⟨O.F.keeps kr, O.D.at (O.D.N.grown kr), O.hp, O.ha, O.hlv, O.hg, rfl⟩
  clear O kr
  refine Stop.mk ⟨_, 3, _, _, _, fun I i t => ∃ q : Law4St, Ch4 prog w h₀ L (some (.ref sc)) lk ki pi ot to (some (.int (dv : Int) t0)) a lv s.os t1 q t ∧ (@Ne Nat I L ∧ h₀.get? I = none ∧ ∀ p ∈ (742, tabObj t1) :: (906, tabObj q.t2) :: q.M.all w.params, @Ne Nat p.1 I), rfl, R2, by decide, by decide, by first | rfl | trivial, ?_, ?_, ?_, ?_⟩
  · intro I h' hI k
    exact ⟨S, ⟨O1.F.keeps k, O1.D.at (O1.D.N.grown k), O1.hp, O1.ha, O1.hlv, O1.hg, rfl⟩, Fr.neOf O1.F hI, none_of_keep O1.F.keep hI, led_ne O1.D.N hI⟩
  · rintro I i t h' tk ⟨q, O', i1, i2, i3⟩ k
    exact ⟨q, ⟨Fr.but O'.F k (notin1 i1.symm) fun b hb => by rw [List.mem_singleton.mp hb]; exact i2, O'.D.at (News.but O'.D.N k fun p hp => notin1 (i3 p hp)), O'.hp, O'.ha, O'.hlv, O'.hg, O'.hos⟩, i1, i2, i3⟩
  · rintro I i tk t hi ⟨q, O', i1, i2, i3⟩ ⟨oI, eI⟩
    refine wpAny_assign_Name (wpAny_storeName_local (by with_unfolding_all rfl) O'.F.ns (fun h4 hn4 hs4 => ?_) (by with_unfolding_all rfl))
    have F4 : Fr h₀ L h4 (lawM (some (.ref sc)) lk (some (.int (i : Int) tk)) q.de ki pi ot to (some (.int (dv : Int) t0)) (some (.ref q.M.a)) q.lo q.hi) := by
      rw [O'.ha]
      exact Fr.law (m := fun z => if z = ("k" : Str) then some (.int (i : Int) tk) else lawM (some (.ref sc)) lk q.kv q.de ki pi ot to (some (.int (dv : Int) t0)) (some (.ref a)) q.lo q.hi z) (O'.F.set hn4 hs4) (off_set (by decide) fun z hz => lawM_off hz)
    have k4 : KeepBut [L] t.heap h4 := fun b o n e => (hs4.2 b (fun q => n (List.mem_singleton.mpr q))).trans e
    have D4 := O'.D.at (News.but O'.D.N k4 fun q hq => notin1 (O'.D.N q hq).2.1)
    have D5 := D4.more i1 i2 i3 (k4 I oI (notin1 i1) eI)
    refine segK hl0 hHB O'.hg hl hI hlen hlay (by omega) hdv F4 D5 O'.hp (O'.hlv.trans hlv) ?_
    intro M' t2' de' lo' hi' s' F6 D6 hp6 ha6 hv6 hg6 hos6
    show Stop _
    obtain ⟨D7, off7, e7⟩ := D6.less
    refine Stop.mk ⟨⟨⟨M', t2', _, de', lo', hi'⟩, ⟨by rw [O'.ha] at F6; exact F6, D7, hp6, ha6.trans O'.ha, hv6.trans O'.hlv, hg6, hos6.trans O'.hos⟩, i1, i2, off7⟩, fun o e => ?_⟩
    rw [eI] at e; cases e; exact e7
  · rintro I t ⟨q, O', _⟩
    k_steps
    exact ret q t O'
end
end Mine
namespace Mine
open PyProof.Rows.LCg PyProof.Rows.LCt
section
variable {prog : Program} {w : World} {p : Program} {loose : List Str} {mean : ExcName → Option Value} {mg mb : Str → Option Value}
  {A : Around} {h₀ : Heap} {L : Addr} {m : Str → Option Value} {s : Shared} {Q : Value → Shared → Prop} {E : Value → Shared → Prop}
variable {Q' : Flow → Shared → Prop}
theorem segA {qual : Str} {scope : Scope} {body : List Stmt} {fa : Addr} {cd : Value} {Q' : Flow → Shared → Prop} (hlaw : LawIs w qual scope body) (H : Here w p loose mean mg mb A L h₀ 650 9500)
   {sc : Addr} {vs : List Value} {ns : List Int} (hl : h₀.IsList sc vs.toArray) (hI : IntsAre vs ns) (hlen : ns.length ≤ 63) (hlay : PyData.layable0 (.list (ns.map .int)) = true)
   {o1 o2 : Obj} {v1 v2 : Option Value} {R : List (Addr × Obj)}
   (F : Fr h₀ L s.heap (lawM (some (.ref sc)) none none none none none none none none none none none)) (N : News h₀ L s.heap ((L + 1, o1) :: (L + 1 + 1, o2) :: R)) (d1 : o1.data = .cell v1) (d2 : o2.data = .cell v2) (hR : ∀ q ∈ R, @Ne Nat q.1 (L + 1) ∧ @Ne Nat q.1 (L + 1 + 1))
   (ret : ∀ (lv : Nat) (o1' o2' : Obj) (la x d al ar : Addr) (tl tl' t1 t2 t3 t4 t5 : Tok) (s' : Shared), lv ≤ 6 → o1'.data = .cell (some (.int (lv : Int) tl)) → o2'.data = .cell (some (.ref x)) → Fr h₀ L s'.heap (lawM (some (.ref sc)) (some (.ref la)) none none none none none none none none none none) →
      News h₀ L s'.heap ((la, listOf #[] 0) :: (x, instObj 929 d) :: (d, mgrDict w.params (lv : Int) tl' t1 t2 t3 t4 t5 al ar) :: (al, listOf #[] 0) :: (ar, dictOf [] 0) :: (L + 1, o1') :: (L + 1 + 1, o2') :: R) →
      (∀ q ∈ (x, instObj 929 d) :: (d, mgrDict w.params (lv : Int) tl' t1 t2 t3 t4 t5 al ar) :: (al, listOf #[] 0) :: (ar, dictOf [] 0) :: (L + 1, o1') :: (L + 1 + 1, o2') :: R, @Ne Nat q.1 la) →
      (∀ q ∈ (L + 1, o1') :: (L + 1 + 1, o2') :: R, @Ne Nat q.1 x ∧ @Ne Nat q.1 d ∧ @Ne Nat q.1 al ∧ @Ne Nat q.1 ar) → (ar == sysModules) = false → @Ne Nat d ar → s'.gens = s.gens → s'.os = s.os → Q' .next s') :
   wpAny (model prog w) A (execs (body.take 3) (envOfC qual scope L fa cd)) Q' (fun _ _ => False) s := by
  obtain ⟨rfl, rfl, rfl⟩ := hlaw.eq (by k_is)
  show wpAny _ _ (execs [_, _, _] _) _ _ _
  have hHB := H
  refine H.openC ?_
  clear H
  intro A₀ base outer env B hA hf hke hh hdp hun X T
  obtain ⟨hd', dp, fr, gd, un⟩ := A
  dsimp only at hA hh hdp hun; subst hh
  clear hlaw
  have hR1 : ∀ q ∈ R, @Ne Nat q.1 (L + 1) := fun q hq => (hR q hq).1
  have hR2 : ∀ q ∈ R, @Ne Nat q.1 (L + 1 + 1) := fun q hq => (hR q hq).2
  have n12 : @Ne Nat (L + 1) (L + 1 + 1) := fun e => absurd (show L + 1 + 1 = L + 1 from e.symm) (Nat.succ_ne_self _)
  have f0 : 0 ≤ (numN ns 0).fmod 7 := Int.fmod_nonneg_of_pos _ (by decide)
  have f1 : (numN ns 0).fmod 7 < 7 := Int.fmod_lt_of_pos _ (by decide)
  have fc : (((numN ns 0).fmod 7).toNat : Int) = (numN ns 0).fmod 7 := Int.toNat_of_nonneg (by assumption)
  have lv6 : ((numN ns 0).fmod 7).toNat ≤ 6 := by omega
  replace ret := ret ((numN ns 0).fmod 7).toNat
  rw [fc] at ret
  k_steps
  rename Fr h₀ L _ _ => F1
  rename News h₀ L _ _ => N1
  rename (_ = Data.cell (some (Value.int _ _))) => e1'
  refine Stop.mk ?_
  refine' mgr_init_raw ?hHb ?hFb ?_
  case hHb => exact hHB.le (by omega) (by omega)
  case hFb => exact F1
  intro x d h3 tk3 t1 t2 t3 t4 t5 al ar F3 kb ex ed el er nx nd nl nr nlr hsy
  have N3 := led_new F1 nx ex (led_new F1 nd ed (led_new F1 nl el (led_new F1 nr er (News.but N1 kb fun q hq => notin1 (N1 q hq).2.1))))
  have qx := led_ne N1 nx
  have qd := led_ne N1 nd
  have ql := led_ne N1 nl
  have qr := led_ne N1 nr
  have nda : @Ne Nat d ar := fun e => by rw [show d = ar from e, er] at ed; cases ed
  have x2 := qx _ (.tail _ (.head _))
  have dd2 := qd _ (.tail _ (.head _))
  have al2 := ql _ (.tail _ (.head _))
  have ar2 := qr _ (.tail _ (.head _))
  clear N1 F1
  k_steps
  rename Fr h₀ L _ _ => F9
  rename News h₀ L _ _ => N9
  rename (_ = Data.cell (some (Value.ref x))) => e2'
  rename (_ < _ ∧ _ < _ ∧ _ < _ ∧ _ < _ ∧ _) => l9
  refine ret _ _ _ x d al ar _ _ _ _ _ _ _ _ lv6 e1' e2' (Fr.law F9 (off_set (by decide) fun z hz => lawM_off hz)) N9 (allLt_all l9) ?_ hsy nda rfl rfl
  refine List.forall_mem_cons.mpr ⟨⟨qx _ (.head _), qd _ (.head _), ql _ (.head _), qr _ (.head _)⟩, List.forall_mem_cons.mpr ⟨⟨x2, dd2, al2, ar2⟩, fun q hq => ⟨qx q (.tail _ (.tail _ hq)), qd q (.tail _ (.tail _ hq)), ql q (.tail _ (.tail _ hq)), qr q (.tail _ (.tail _ hq))⟩⟩⟩
end
end Mine
namespace Mine
open PyProof.Rows.LCg PyProof.Rows.LCt
section
variable {prog : Program} {w : World} {p : Program} {loose : List Str} {mean : ExcName → Option Value} {mg mb : Str → Option Value}
  {A : Around} {h₀ : Heap} {L : Addr} {m : Str → Option Value} {s : Shared} {Q : Value → Shared → Prop} {E : Value → Shared → Prop}
variable {Q' : Flow → Shared → Prop}
theorem parts10 {α : Type} (l : List α) : l = l.take 3 ++ ((l.drop 3).take 1 ++ ((l.drop 4).take 1 ++ ((l.drop 5).take 2 ++ ((l.drop 7).take 1 ++ ((l.drop 8).take 1 ++ l.drop 9))))) := by
  have e : ∀ (n k : Nat), l.drop n = (l.drop n).take k ++ l.drop (n + k) := fun n k => by rw [← List.drop_drop]; exact (List.take_append_drop k _).symm
  rw [← e 8 1, ← e 7 1, ← e 5 2, ← e 4 1, ← e 3 1, List.take_append_drop]
theorem segZ {qual : Str} {scope : Scope} {body : List Stmt} {fa : Addr} {cd : Value} {Q' : Flow → Shared → Prop} (hlaw : LawIs w qual scope body) (H : Here w p loose mean mg mb A L h₀ 650 9500) (F : Fr h₀ L s.heap m)
   (ret : ∀ tk', Q' (.ret (.bool true)) { s with toks := tk' }) :
   wpAny (model prog w) A (execs (body.drop 9) (envOfC qual scope L fa cd)) Q' (fun _ _ => False) s := by
  obtain ⟨rfl, rfl, rfl⟩ := hlaw.eq (by k_is)
  show wpAny _ _ (execs [_] _) _ _ _
  have hHB := H
  refine H.openC ?_
  clear H
  intro A₀ base outer env B hA hf hke hh hdp hun X T
  obtain ⟨hd', dp, fr, gd, un⟩ := A
  dsimp only at hA hh hdp hun; subst hh
  clear hlaw
  k_steps
  exact ret _
theorem law_whole {qual : Str} {scope : Scope} {body : List Stmt} {fa : Addr} {cd : Value} {Q' : Flow → Shared → Prop} (hlaw : LawIs w qual scope body) (H : Here w p loose mean mg mb A L h₀ 650 9500) (h1f : ∃ env₁, A.frames = some [env₁]) (hG : AllBare s.gens)
   {sc : Addr} {vs : List Value} {ns : List Int} (hl : h₀.IsList sc vs.toArray) (hI : IntsAre vs ns) (hlen : ns.length ≤ 63) (hlay : PyData.layable0 (.list (ns.map .int)) = true)
   {o1 o2 o3 o4 o5 : Obj} {v1 v2 v3 v4 v5 : Option Value} {t1 t2 : Array Value} (h9 : @LT.lt Nat _ 906 L)
   (F : Fr h₀ L s.heap (lawM (some (.ref sc)) none none none none none none none none none none none)) (N : News h₀ L s.heap ((L + 1, o1) :: (L + 1 + 1, o2) :: [(L + 1 + 1 + 1, o3), (L + 1 + 1 + 1 + 1, o4), (L + 1 + 1 + 1 + 1 + 1, o5), (742, tabObj t1), (906, tabObj t2)]))
   (d1 : o1.data = .cell v1) (d2 : o2.data = .cell v2) (d3 : o3.data = .cell v3) (d4 : o4.data = .cell v4) (d5 : o5.data = .cell v5) (tr1 : TriplesOk t1.toList) (tr2 : TriplesOk t2.toList)
   (ret : ∀ (m' : Str → Option Value) (t1' t2' : Array Value) (s' : Shared), Fr h₀ L s'.heap m' → News h₀ L s'.heap [(742, tabObj t1'), (906, tabObj t2')] → TriplesOk t1'.toList → TriplesOk t2'.toList → AllBare s'.gens → s'.os = s.os → Q' (.ret (.bool true)) s') :
   wpAny (model prog w) A (execs body (envOfC qual scope L fa cd)) Q' (fun _ _ => False) s := by
  have e11 : ∀ {i j : Nat}, i ≠ j → @Ne Nat (L + i) (L + j) := fun h e => h (Nat.add_left_cancel e)
  rw [parts10 body]
  refine execs_app (segA hlaw H hl hI hlen hlay F N d1 d2 ?_ ?_)
  · have z : ∀ q ∈ [(L + 1 + 1 + 1, o3), (L + 1 + 1 + 1 + 1, o4), (L + 1 + 1 + 1 + 1 + 1, o5), (742, tabObj t1), (906, tabObj t2)], @Ne Nat q.1 (L + 1) ∧ @Ne Nat q.1 (L + 1 + 1) := by
      refine List.forall_mem_cons.mpr ⟨⟨fun e => ?_, fun e => ?_⟩, List.forall_mem_cons.mpr ⟨⟨fun e => ?_, fun e => ?_⟩, List.forall_mem_cons.mpr ⟨⟨fun e => ?_, fun e => ?_⟩, List.forall_mem_cons.mpr ⟨⟨fun e => ?_, fun e => ?_⟩, List.forall_mem_cons.mpr ⟨⟨fun e => ?_, fun e => ?_⟩, List.forall_mem_nil _⟩⟩⟩⟩⟩
      all_goals (have e' : @Eq Nat _ _ := e; dsimp only at e'; omega)
    exact z
  intro lv o1' o2' la x d al ar tl tl' u1 u2 u3 u4 u5 s1 hlv e1 e2 F1 N1 nla nq hsy nda g1 os1
  show wpAny _ _ (execs (_ ++ _) _) _ _ _
  obtain ⟨M0, hM0⟩ : ∃ M0 : MgrR, M0 = MgrR.cleared ⟨x, d, al, ar, (lv : Int), tl', u1, u2, u3, u4, u5, dictOf [] 0, 0, [], [], []⟩ al ar := ⟨_, rfl⟩
  have all0 : M0.all w.params = [(x, instObj 929 d), (d, mgrDict w.params (lv : Int) tl' u1 u2 u3 u4 u5 al ar), (al, listOf #[] 0), (ar, dictOf [] 0)] := by rw [hM0]; exact MgrR.cleared_all
  have O0 : M0.Ok prog w := by rw [hM0]; exact MgrR.cleared_ok hsy nda s1.heap
  have off4 : ∀ {b : Addr}, (@Ne Nat b x ∧ @Ne Nat b d ∧ @Ne Nat b al ∧ @Ne Nat b ar) → ∀ p ∈ M0.all w.params, @Ne Nat b p.1 := fun h => by
    rw [all0]
    exact List.forall_mem_cons.mpr ⟨h.1, List.forall_mem_cons.mpr ⟨h.2.1, List.forall_mem_cons.mpr ⟨h.2.2.1, List.forall_mem_cons.mpr ⟨h.2.2.2, List.forall_mem_nil _⟩⟩⟩⟩
  have D0 : LawD prog w h₀ L la 0 [] M0 t1 t2 ((L + 1 + 1 + 1, o3) :: (L + 1 + 1 + 1 + 1, o4) :: [(L + 1, o1'), (L + 1 + 1, o2'), (L + 1 + 1 + 1 + 1 + 1, o5)]) s1.heap := by
    refine ⟨?_, O0, ?_, ?_, fun l hl => (nomatch hl), by rw [hM0]; rfl, by rw [hM0]; rfl, by rw [hM0]; exact fun n hn => (nomatch hn), fun l hl => (nomatch hl), tr1, tr2⟩
    · rw [all0]
      exact newsSub N1 (List.forall_mem_cons.mpr ⟨.head _, List.forall_mem_cons.mpr ⟨.tail _ (.tail _ (.tail _ (.tail _ (.tail _ (.tail _ (.tail _ (.tail _ (.tail _ (.tail _ (.head _)))))))))), List.forall_mem_cons.mpr ⟨.tail _ (.tail _ (.tail _ (.tail _ (.tail _ (.tail _ (.tail _ (.tail _ (.tail _ (.tail _ (.tail _ (.head _))))))))))), List.forall_mem_cons.mpr ⟨.tail _ (.tail _ (.tail _ (.tail _ (.tail _ (.tail _ (.tail _ (.head _))))))), List.forall_mem_cons.mpr ⟨.tail _ (.tail _ (.tail _ (.tail _ (.tail _ (.tail _ (.tail _ (.tail _ (.head _)))))))), List.forall_mem_cons.mpr ⟨.tail _ (.tail _ (.tail _ (.tail _ (.tail _ (.head _))))), List.forall_mem_cons.mpr ⟨.tail _ (.tail _ (.tail _ (.tail _ (.tail _ (.tail _ (.head _)))))), List.forall_mem_cons.mpr ⟨.tail _ (.tail _ (.tail _ (.tail _ (.tail _ (.tail _ (.tail _ (.tail _ (.tail _ (.head _))))))))), List.forall_mem_cons.mpr ⟨.tail _ (.head _), List.forall_mem_cons.mpr ⟨.tail _ (.tail _ (.head _)), List.forall_mem_cons.mpr ⟨.tail _ (.tail _ (.tail _ (.head _))), List.forall_mem_cons.mpr ⟨.tail _ (.tail _ (.tail _ (.tail _ (.head _)))), List.forall_mem_nil _⟩⟩⟩⟩⟩⟩⟩⟩⟩⟩⟩⟩)
    · exact List.forall_mem_cons.mpr ⟨off4 ⟨(nla _ (.head _)).symm, (nla _ (.tail _ (.head _))).symm, (nla _ (.tail _ (.tail _ (.head _)))).symm, (nla _ (.tail _ (.tail _ (.tail _ (.head _))))).symm⟩, List.forall_mem_cons.mpr ⟨off4 (nq _ (.tail _ (.tail _ (.tail _ (.tail _ (.tail _ (.head _))))))), List.forall_mem_cons.mpr ⟨off4 (nq _ (.tail _ (.tail _ (.tail _ (.tail _ (.tail _ (.tail _ (.head _)))))))), List.forall_mem_cons.mpr ⟨off4 (nq _ (.tail _ (.tail _ (.head _)))), List.forall_mem_cons.mpr ⟨off4 (nq _ (.tail _ (.tail _ (.tail _ (.head _))))), List.forall_mem_cons.mpr ⟨off4 (nq _ (.head _)), List.forall_mem_cons.mpr ⟨off4 (nq _ (.tail _ (.head _))), List.forall_mem_cons.mpr ⟨off4 (nq _ (.tail _ (.tail _ (.tail _ (.tail _ (.head _)))))), List.forall_mem_nil _⟩⟩⟩⟩⟩⟩⟩⟩
    · have g : ∀ {b : Addr}, @LT.lt Nat _ L b → @Ne Nat b 742 ∧ @Ne Nat b 906 := fun h => ⟨fun e => by have e' : @Eq Nat _ 742 := e; omega, fun e => by have e' : @Eq Nat _ 906 := e; omega⟩
      have l1 : @LT.lt Nat _ L (L + 1) := Nat.lt_succ_self _
      have l2 : @LT.lt Nat _ L (L + 1 + 1) := Nat.lt_succ_of_lt l1
      have l3 : @LT.lt Nat _ L (L + 1 + 1 + 1) := Nat.lt_succ_of_lt l2
      have l4 : @LT.lt Nat _ L (L + 1 + 1 + 1 + 1) := Nat.lt_succ_of_lt l3
      have l5 : @LT.lt Nat _ L (L + 1 + 1 + 1 + 1 + 1) := Nat.lt_succ_of_lt l4
      exact List.forall_mem_cons.mpr ⟨⟨nla _ (.tail _ (.tail _ (.tail _ (.tail _ (.tail _ (.tail _ (.head _))))))), g l3⟩, List.forall_mem_cons.mpr ⟨⟨nla _ (.tail _ (.tail _ (.tail _ (.tail _ (.tail _ (.tail _ (.tail _ (.head _)))))))), g l4⟩, List.forall_mem_cons.mpr ⟨⟨nla _ (.tail _ (.tail _ (.tail _ (.tail _ (.head _))))), g l1⟩, List.forall_mem_cons.mpr ⟨⟨nla _ (.tail _ (.tail _ (.tail _ (.tail _ (.tail _ (.head _)))))), g l2⟩, List.forall_mem_cons.mpr ⟨⟨nla _ (.tail _ (.tail _ (.tail _ (.tail _ (.tail _ (.tail _ (.tail _ (.tail _ (.head _))))))))), g l5⟩, List.forall_mem_nil _⟩⟩⟩⟩⟩
  have rR : ∀ q ∈ [(L + 1, o1'), (L + 1 + 1, o2'), (L + 1 + 1 + 1 + 1 + 1, o5)], @Ne Nat q.1 (L + 1 + 1 + 1) ∧ @Ne Nat q.1 (L + 1 + 1 + 1 + 1) := by
    refine List.forall_mem_cons.mpr ⟨⟨fun e => ?_, fun e => ?_⟩, List.forall_mem_cons.mpr ⟨⟨fun e => ?_, fun e => ?_⟩, List.forall_mem_cons.mpr ⟨⟨fun e => ?_, fun e => ?_⟩, List.forall_mem_nil _⟩⟩⟩
    all_goals (have e' : @Eq Nat _ _ := e; dsimp only at e'; omega)
  have K0 : LawOk prog w h₀ L sc lv o1' o2' x s1.os 0 ⟨la, 0, [], M0, t1, t2, none, none, none, none, none, none, v3, v4, o3, o4, [(L + 1, o1'), (L + 1 + 1, o2'), (L + 1 + 1 + 1 + 1 + 1, o5)]⟩ s1 :=
    ⟨F1, D0, d3, d4, rR, .head _, .tail _ (.head _), by rw [hM0]; rfl, by rw [hM0]; rfl, Nat.le_refl _, by rw [g1]; exact hG, rfl⟩
  clear D0 N1 nla nq F1 N F
  refine execs_app (law_loop1 hlaw H h1f hl hI hlen hlay K0 e1 e2 (by omega) ?_)
  intro S2 s2 K2 sub2
  show wpAny _ _ (execs (_ ++ _) _) _ _ _
  clear K0
  have c5R : (L + 1 + 1 + 1 + 1 + 1, o5) ∈ S2.R := sub2 _ (.tail _ (.tail _ (.head _)))
  have l5 : ∀ l ∈ S2.ls, (l.x, l.ob) ∈ S2.R ∧ @Ne Nat l.x (L + 1 + 1 + 1 + 1 + 1) := fun l hl => by
    have a := mem_past K2.d4 (mem_past K2.d3 (K2.D.hls l hl))
    refine ⟨a, fun e => ?_⟩
    have x1 := (K2.D.N (l.x, l.ob) (.tail _ (.tail _ (.tail _ (List.mem_append_left _ (.tail _ (.tail _ a))))))).1
    have x2 := (K2.D.N (L + 1 + 1 + 1 + 1 + 1, o5) (.tail _ (.tail _ (.tail _ (List.mem_append_left _ (.tail _ (.tail _ c5R))))))).1
    dsimp only at x1 x2
    rw [show l.x = L + 1 + 1 + 1 + 1 + 1 from e, x2] at x1
    exact ob_ne (l := l) d5 (c := l.x) (by rw [Option.some.inj x1])
  have fm : ∀ {q : Addr × Obj}, q ∈ S2.R → @Ne Nat q.1 (L + 1 + 1 + 1 + 1 + 1) → q ∈ S2.R.filter (fun q => decide (@Ne Nat q.1 (L + 1 + 1 + 1 + 1 + 1))) := fun h n => List.mem_filter.mpr ⟨h, decide_eq_true n⟩
  have D2 := K2.D.mono (R' := (L + 1 + 1 + 1 + 1, S2.o4) :: (L + 1 + 1 + 1 + 1 + 1, o5) :: S2.R.filter (fun q => decide (@Ne Nat q.1 (L + 1 + 1 + 1 + 1 + 1)))) (List.forall_mem_cons.mpr ⟨.tail _ (.head _), List.forall_mem_cons.mpr ⟨.tail _ (.tail _ c5R), fun q hq => .tail _ (.tail _ (List.mem_filter.mp hq).1)⟩⟩) (fun l hl => .tail _ (.tail _ (fm (l5 l hl).1 (l5 l hl).2)))
  have nn : @Ne Nat (L + 1) (L + 1 + 1 + 1 + 1 + 1) ∧ @Ne Nat (L + 1 + 1) (L + 1 + 1 + 1 + 1 + 1) := ⟨fun e => by have e' : @Eq Nat _ _ := e; omega, fun e => by have e' : @Eq Nat _ _ := e; omega⟩
  refine execs_app (law_loop2 hlaw H K2.hG K2.F D2 K2.d4 d5 (fun q hq => ⟨(K2.hR q (List.mem_filter.mp hq).1).2, of_decide_eq_true (List.mem_filter.mp hq).2⟩) (Nat.le_trans K2.hls (by decide)) (fun l hl => fm (l5 l hl).1 (l5 l hl).2) (fm K2.c1 nn.1) e1 (fm K2.c2 nn.2) (by rw [K2.ha]; exact e2) K2.hlv (by omega) ?_)
  intro t2' s3 F3 N3 tr3 G3 os3
  show wpAny _ _ (execs (_ ++ _) _) _ _ _
  refine execs_app (segI hlaw H hl hI hlen hlay F3 N3 ?_)
  intro dv y d' al' ar' lv' ul u0 w1 w2 w3 w4 w5 s4 hdv hlv' F4 N4 ne4 hsy4 nda4 g4 os4
  show wpAny _ _ (execs (_ ++ _) _) _ _ _
  obtain ⟨M4, hM4⟩ : ∃ M4 : MgrR, M4 = MgrR.cleared ⟨y, d', al', ar', lv', ul, w1, w2, w3, w4, w5, dictOf [] 0, 0, [], [], []⟩ al' ar' := ⟨_, rfl⟩
  have all4 : M4.all w.params = [(y, instObj 929 d'), (d', mgrDict w.params lv' ul w1 w2 w3 w4 w5 al' ar'), (al', listOf #[] 0), (ar', dictOf [] 0)] := by rw [hM4]; exact MgrR.cleared_all
  have O4 : M4.Ok prog w := by rw [hM4]; exact MgrR.cleared_ok hsy4 nda4 s4.heap
  have D4 : ChS prog w h₀ L M4 S2.p1 t2' [] s4.heap := by
    refine ⟨?_, O4, ?_, fun q hq => (nomatch hq), K2.D.tr1, tr3, by rw [hM4]; exact fun n hn => (nomatch hn)⟩
    · rw [all4]
      exact newsSub N4 (List.forall_mem_cons.mpr ⟨.tail _ (.tail _ (.tail _ (.tail _ (.head _)))), List.forall_mem_cons.mpr ⟨.tail _ (.tail _ (.tail _ (.tail _ (.tail _ (.head _))))), List.forall_mem_cons.mpr ⟨.head _, List.forall_mem_cons.mpr ⟨.tail _ (.head _), List.forall_mem_cons.mpr ⟨.tail _ (.tail _ (.head _)), List.forall_mem_cons.mpr ⟨.tail _ (.tail _ (.tail _ (.head _))), List.forall_mem_nil _⟩⟩⟩⟩⟩⟩)
    · rw [all4]
      have f4 : ∀ {b : Addr}, (@Ne Nat b y ∧ @Ne Nat b d' ∧ @Ne Nat b al' ∧ @Ne Nat b ar') → ∀ p ∈ [(y, instObj 929 d'), (d', mgrDict w.params lv' ul w1 w2 w3 w4 w5 al' ar'), (al', listOf #[] 0), (ar', dictOf [] 0)], @Ne Nat b p.1 := fun h => List.forall_mem_cons.mpr ⟨h.1, List.forall_mem_cons.mpr ⟨h.2.1, List.forall_mem_cons.mpr ⟨h.2.2.1, List.forall_mem_cons.mpr ⟨h.2.2.2, List.forall_mem_nil _⟩⟩⟩⟩
      exact List.forall_mem_cons.mpr ⟨f4 (ne4 _ (.head _)), List.forall_mem_cons.mpr ⟨f4 (ne4 _ (.tail _ (.head _))), List.forall_mem_nil _⟩⟩
  have C0 : Ch3 prog w h₀ L (some (.ref sc)) (some (.ref S2.la)) S2.de S2.ki S2.pi S2.ot S2.to (some (.int (dv : Int) u0)) y lv' s4.gens s4.os S2.p1 t2' [] 0 S2.k M4 s4 := ⟨F4, D4, by rw [hM4]; rfl, by rw [hM4]; rfl, by rw [hM4]; rfl, by rw [hM4]; rfl, rfl, rfl⟩
  refine execs_app (law_loop3 hlaw H C0 ?_)
  intro kv5 M5 s5 C5
  show wpAny _ _ (execs (_ ++ _) _) _ _ _
  have E0 : Ch4 prog w h₀ L (some (.ref sc)) (some (.ref S2.la)) S2.ki S2.pi S2.ot S2.to (some (.int (dv : Int) u0)) y lv' s5.os S2.p1 ⟨M5, t2', kv5, S2.de, none, none⟩ s5 := ⟨C5.F, C5.D, C5.hp, C5.ha, C5.hlv, by rw [C5.hg, g4]; exact G3, rfl⟩
  refine execs_app (law_loop4 hlaw H hl hI hlen hlay hdv hlv' E0 ?_)
  intro S6 s6 C6
  show wpAny _ _ (execs _ _) _ _ _
  refine segZ hlaw H C6.F fun tk' => ?_
  exact ret _ S2.p1 S6.t2 { s6 with toks := tk' } C6.F (newsSub C6.D.N (List.forall_mem_cons.mpr ⟨.head _, List.forall_mem_cons.mpr ⟨.tail _ (.head _), List.forall_mem_nil _⟩⟩)) C6.D.tr1 C6.D.tr2 C6.hg (C6.hos.trans (C5.hos.trans (os4.trans (os3.trans (K2.hos.trans os1)))))
end
end Mine
section
open PySem PySem.W PyProof.Rows PySem.Calls
namespace Mine
theorem start.tw16858519062561313686 : True := trivial
theorem start.tw6975705564266715478 : True := trivial
theorem start.tw11290786673954786646 : True := trivial
theorem start.tw11010013887253676790 : True := trivial
theorem start.tw11303955350130701494 : True := trivial
theorem start.tw3666085415110933686 : True := trivial
theorem start.tw1094499276257891510 : True := trivial
theorem start.tw8579762050814656662 : True := trivial
theorem start.tw202615210620397174 : True := trivial
theorem start.tw11618082402090489398 : True := trivial
theorem start.tw9339828919464933942 : True := trivial
theorem start.tw6141167028105771030 : True := trivial
theorem start.tw10071901786214025238 : True := trivial
theorem start.tw10345815785739730902 : True := trivial
theorem start.tw2553289459300790 : True := trivial
theorem start.tw17998656946800428438 : True := trivial
theorem start.tw7414260115782718870 : True := trivial
theorem start.tw676126889696282006 : True := trivial
theorem start.tw10202031902588836726 : True := trivial
theorem start.tw16726720304027464566 : True := trivial
theorem start.tw13325035984472525654 : True := trivial
theorem start.tw8849718341700830006 : True := trivial
theorem start.tw2395410457997470518 : True := trivial
theorem start.tw102915494302208278 : True := trivial
theorem start.tw18234957091216957718 : True := trivial
theorem start.tw5758558809316822294 : True := trivial
theorem start.tw2909908378624001270 : True := trivial
theorem start.tw4928582728624832758 : True := trivial
theorem start.tw11158481295041494230 : True := trivial
theorem start.tw9852636068962966646 : True := trivial
theorem start.tw6290984988963395702 : True := trivial
theorem start.tw8563054619537613942 : True := trivial
theorem start.tw12732055929263931478 : True := trivial
theorem start.tw2004733111233844278 : True := trivial
theorem start.tw6017087720795271222 : True := trivial
theorem start.tw16718377971336438838 : True := trivial
theorem start.tw10405412081811334678 : True := trivial
theorem start.tw13185199904709122582 : True := trivial
theorem start.tw15528004282565004790 : True := trivial
theorem start.tw1791433237252668159 : True := trivial
theorem start.tw2747309662536949471 : True := trivial
theorem start.tw15706971102675446495 : True := trivial
theorem start.tw17793940317724708575 : True := trivial
theorem start.tw13346119332840340191 : True := trivial
theorem start.tw2199858857350010047 : True := trivial
theorem start.tw15222436505123643583 : True := trivial
theorem start.tw14303297176563442879 : True := trivial
theorem start.tw8269114158326216895 : True := trivial
theorem start.tw1403506718312660159 : True := trivial
theorem start.tw17056349248376794271 : True := trivial
theorem start.tw6148803380307137663 : True := trivial
theorem start.tw13278986044752053375 : True := trivial
theorem start.tw10222889987132834943 : True := trivial
theorem start.tw18019268841910847615 : True := trivial
theorem start.tw16660843112982455903 : True := trivial
theorem start.tw13265757836108959743 : True := trivial
theorem start.tw11932856307156349951 : True := trivial
theorem start.tw6326365555885064639 : True := trivial
theorem start.tw12480776211097900447 : True := trivial
theorem start.tw7860810507203334527 : True := trivial
theorem start.tw535900412755092319 : True := trivial
theorem start.tw15211256834985509119 : True := trivial
theorem start.tw2770420343872077055 : True := trivial
theorem start.tw380898060155171039 : True := trivial
theorem start.tw14765645823064668863 : True := trivial
theorem start.tw5249458100724389535 : True := trivial
theorem start.tw11110157136960691839 : True := trivial
theorem start.tw14129131597086979711 : True := trivial
theorem start.tw231595705668962399 : True := trivial
theorem start.tw1199816989082426463 : True := trivial
theorem start.tw4276668181744333855 : True := trivial
theorem start.tw5977768323910698015 : True := trivial
theorem start.tw7501700831558956063 : True := trivial
theorem start.tw2989847120311690751 : True := trivial
theorem start.tw15752492092258554335 : True := trivial
theorem start.tw584205339823280063 : True := trivial
theorem start.tw11815711234163598271 : True := trivial
theorem start.tw18325785013386096543 : True := trivial
theorem start.tw9988903143736173439 : True := trivial
theorem start.tw13890692712457637215 : True := trivial
theorem start.tw17822956926436791647 : True := trivial
theorem start.tw18141140186773640543 : True := trivial
theorem start.tw14145307502809121087 : True := trivial
theorem start.tw12812134216398693332 : True := trivial
theorem start.tw9885455516763042772 : True := trivial
theorem start.tw17111699384066900916 : True := trivial
theorem start.tw4559038162581342612 : True := trivial
theorem start.tw8065820022427826580 : True := trivial
theorem start.tw15363735366844769684 : True := trivial
theorem start.tw9635448770074619252 : True := trivial
theorem start.tw1232386260247683444 : True := trivial
theorem start.tw12273683097039752564 : True := trivial
theorem start.tw3909116173582297940 : True := trivial
theorem start.tw11264310352901632788 : True := trivial
theorem start.tw3773661404505499892 : True := trivial
theorem start.tw3239718824811654356 : True := trivial
theorem start.tw16990543224045797556 : True := trivial
theorem start.tw3329481101937026228 : True := trivial
theorem start.tw1069149374673481364 : True := trivial
theorem start.tw15326066049576760980 : True := trivial
theorem start.tw2761671357156507732 : True := trivial
theorem start.tw6755966042676042836 : True := trivial
theorem start.tw17490976630048400468 : True := trivial
theorem start.tw12675145271568118836 : True := trivial
theorem start.tw6241076537267075124 : True := trivial
theorem start.tw12288300593520246804 : True := trivial
theorem start.tw17487823866944599540 : True := trivial
theorem start.tw16679707068167377396 : True := trivial
theorem start.tw10713937015419543988 : True := trivial
theorem start.tw223287361072695732 : True := trivial
theorem start.tw3690135397575275412 : True := trivial
theorem start.tw98050985922164596 : True := trivial
theorem start.tw3556366328572700532 : True := trivial
theorem start.tw6825905643208641396 : True := trivial
theorem start.tw3712942107195108692 : True := trivial
theorem start.tw21678497762414932 : True := trivial
theorem start.tw16904242336089348436 : True := trivial
theorem start.tw12201320057792245044 : True := trivial
theorem start.tw10418372126177580308 : True := trivial
theorem start.tw6817267161365098772 : True := trivial
theorem start.tw11890493863894037236 : True := trivial
theorem start.tw12197843905004745460 : True := trivial
theorem start.tw3588301683735071412 : True := trivial
theorem start.tw13432766822949913268 : True := trivial
theorem start.tw15002417015518842548 : True := trivial
theorem start.tw17194764037501684884 : True := trivial
theorem start.tw5352961220359356564 : True := trivial
theorem start.tw5593031848246866068 : True := trivial
theorem start.tw195188187476676756 : True := trivial
theorem start.tw4843655872398101044 : True := trivial
theorem start.tw13387065904856730612 : True := trivial
theorem start.tw4159475691952688116 : True := trivial
theorem start.tw15048507152724020445 : True := trivial
theorem start.tw16515711582862520541 : True := trivial
theorem start.tw15710805524763432157 : True := trivial
theorem start.tw16340749637479611581 : True := trivial
theorem start.tw1890927985719924925 : True := trivial
theorem start.tw2309296041480258717 : True := trivial
theorem start.tw14912497352275819101 : True := trivial
theorem start.tw17387221718013795933 : True := trivial
theorem start.tw14035054102705688157 : True := trivial
theorem start.tw12672032691353297981 : True := trivial
theorem start.tw7366011369865075773 : True := trivial
theorem start.tw4125455871573869629 : True := trivial
theorem start.tw9796186633386011677 : True := trivial
theorem start.tw2344078746093746205 : True := trivial
theorem start.tw5521531395170238941 : True := trivial
theorem start.tw14004435711430308285 : True := trivial
theorem start.tw1496488768920419773 : True := trivial
theorem start.tw9968033872398435741 : True := trivial
theorem start.tw1124471109776290685 : True := trivial
theorem start.tw11103984860855981341 : True := trivial
theorem start.tw12790091920714324221 : True := trivial
theorem start.tw14839797032967011037 : True := trivial
theorem start.tw9187906851361798269 : True := trivial
theorem start.tw3775330064804145245 : True := trivial
theorem start.tw9436507318758216797 : True := trivial
theorem start.tw4624358237128438333 : True := trivial
theorem start.tw17210627847867059773 : True := trivial
theorem start.tw15673235392826795581 : True := trivial
theorem start.tw12272130316540622333 : True := trivial
theorem start.tw5645618898062613469 : True := trivial
theorem start.tw9802613981043709917 : True := trivial
theorem start.tw7342348182843897789 : True := trivial
theorem start.tw9038954422533479805 : True := trivial
theorem start.tw15634924997239670141 : True := trivial
theorem start.tw15202890941270417789 : True := trivial
theorem start.tw2165527369030106493 : True := trivial
theorem start.tw1814113959129087357 : True := trivial
theorem start.tw9319245632471492957 : True := trivial
theorem start.tw12264965319404687133 : True := trivial
theorem start.tw14152638930923239890 : True := trivial
theorem start.tw16051207907888965074 : True := trivial
theorem start.tw9332515824966381010 : True := trivial
theorem start.tw5481970429248671186 : True := trivial
theorem start.tw16291772081685743058 : True := trivial
theorem start.tw16441741162028151218 : True := trivial
theorem start.tw10228608192795133362 : True := trivial
theorem start.tw7034632147287259570 : True := trivial
theorem start.tw16835887160072508818 : True := trivial
theorem start.tw10059227447033325970 : True := trivial
theorem start.tw474788065140910962 : True := trivial
theorem start.tw17282782826403186546 : True := trivial
theorem start.tw4647509949355066194 : True := trivial
theorem start.tw14628826352457916210 : True := trivial
theorem start.tw2030592387166017810 : True := trivial
theorem start.tw869163835086839058 : True := trivial
theorem start.tw4690822608276867346 : True := trivial
theorem start.tw6849979753000761586 : True := trivial
theorem start.tw3123671820122574066 : True := trivial
theorem start.tw13294232130409314002 : True := trivial
theorem start.tw16116683918121038546 : True := trivial
theorem start.tw7592467203197379282 : True := trivial
theorem start.tw6914109708938111698 : True := trivial
theorem start.tw4627841844015758002 : True := trivial
theorem start.tw13091364846576577650 : True := trivial
theorem start.tw11356654718369457266 : True := trivial
theorem start.tw13227901733908671602 : True := trivial
theorem start.tw16951088103152579634 : True := trivial
theorem start.tw3218365222394653746 : True := trivial
theorem start.tw5261375139344053778 : True := trivial
theorem start.tw12542530690890023410 : True := trivial
theorem start.tw16782481581374554610 : True := trivial
theorem start.tw9724747495430192082 : True := trivial
theorem start.tw12563244034474335186 : True := trivial
theorem start.tw1583289929103006642 : True := trivial
theorem start.tw6356766657365514130 : True := trivial
theorem start.tw4417325822043400562 : True := trivial
theorem start.tw114420961860292978 : True := trivial
theorem start.tw2220690383540202258 : True := trivial
theorem start.tw13243998175630547730 : True := trivial
theorem start.tw264051106514866386 : True := trivial
theorem start.tw4031922560543576274 : True := trivial
theorem start.tw12372970439063491730 : True := trivial
theorem start.tw7815179698139469394 : True := trivial
theorem start.tw1616817570822604370 : True := trivial
theorem start.tw1047233578074066962 : True := trivial
theorem start.tw10135073779410791410 : True := trivial
theorem start.tw11425019304271834098 : True := trivial
theorem start.tw14469715143093406706 : True := trivial
theorem start.tw3684416315572216818 : True := trivial
theorem start.tw6537291631089059067 : True := trivial
theorem start.tw5159820835013030139 : True := trivial
theorem start.tw18365771935185855707 : True := trivial
theorem start.tw8467147237241349787 : True := trivial
theorem start.tw16199769660238376603 : True := trivial
theorem start.tw13343231141267588187 : True := trivial
theorem start.tw7629401562380206171 : True := trivial
theorem start.tw14100931244301384795 : True := trivial
theorem start.tw9311990691925035067 : True := trivial
theorem start.tw3408209879175529499 : True := trivial
theorem start.tw904448329173255675 : True := trivial
theorem start.tw9391783246437899771 : True := trivial
theorem start.tw3308782594416617979 : True := trivial
theorem start.tw7121889936992775643 : True := trivial
theorem start.tw17994743786230896091 : True := trivial
theorem start.tw4059382710030761883 : True := trivial
theorem start.tw3037824474664845211 : True := trivial
theorem start.tw1512197725120590715 : True := trivial
theorem start.tw1275481364177763675 : True := trivial
theorem start.tw3505684530774979931 : True := trivial
theorem start.tw18380824099779056955 : True := trivial
theorem start.tw15639971923645883099 : True := trivial
theorem start.tw17568207904993190619 : True := trivial
theorem start.tw5217811393948541115 : True := trivial
theorem start.tw3158906917950572731 : True := trivial
theorem start.tw12195059396665296027 : True := trivial
theorem start.tw14450438449686628475 : True := trivial
theorem start.tw14693533431042199131 : True := trivial
theorem start.tw6749994796365818459 : True := trivial
theorem start.tw1099219100948096571 : True := trivial
theorem start.tw3322343374487319515 : True := trivial
theorem start.tw17927138812169629659 : True := trivial
theorem start.tw15477293555182211451 : True := trivial
theorem start.tw14264947634679099195 : True := trivial
theorem start.tw15441959994476364571 : True := trivial
theorem start.tw7380989778512902939 : True := trivial
theorem start.tw14239782155319950768 : True := trivial
theorem start.tw14954850449197472656 : True := trivial
theorem start.tw15419588900889585520 : True := trivial
theorem start.tw202196426852938608 : True := trivial
theorem start.tw17951749456957903728 : True := trivial
theorem start.tw8131974579204348240 : True := trivial
theorem start.tw3739263111847959888 : True := trivial
theorem start.tw2522811107663485264 : True := trivial
theorem start.tw9594790217675794736 : True := trivial
theorem start.tw18222620510509237520 : True := trivial
theorem start.tw15746549456272894672 : True := trivial
theorem start.tw4916224642551133872 : True := trivial
theorem start.tw4812077029848869552 : True := trivial
theorem start.tw14938720906532782224 : True := trivial
theorem start.tw8487251465140504144 : True := trivial
theorem start.tw9481563982776118864 : True := trivial
theorem start.tw8685554248046325328 : True := trivial
theorem start.tw4199951957827647024 : True := trivial
theorem start.tw356486981048231888 : True := trivial
theorem start.tw7836047517561650128 : True := trivial
theorem start.tw16176710795251481552 : True := trivial
theorem start.tw14404579184387392432 : True := trivial
theorem start.tw12703384902407439760 : True := trivial
theorem start.tw13506930596884939600 : True := trivial
theorem start.tw4788809910623713072 : True := trivial
theorem start.tw14076282490753175344 : True := trivial
theorem start.tw12620054735084409616 : True := trivial
theorem start.tw15885228733045903600 : True := trivial
theorem start.tw16262422869112790224 : True := trivial
theorem start.tw9788613430679857360 : True := trivial
theorem start.tw15078126258100000976 : True := trivial
theorem start.tw4315603103271994576 : True := trivial
theorem start.tw8346387368778866288 : True := trivial
theorem start.tw1925146542647189104 : True := trivial
theorem start.tw15422480395079751280 : True := trivial
theorem start.tw4870076546932441712 : True := trivial
theorem start.tw10456813629864478320 : True := trivial
theorem start.tw2719784323576825456 : True := trivial
theorem start.tw17101378232210787408 : True := trivial
theorem start.tw16854198427098491984 : True := trivial
theorem start.tw8904167863521919056 : True := trivial
theorem start.tw3790845450652588048 : True := trivial
theorem start.tw15954508381989727481 : True := trivial
theorem start.tw17123265281451196665 : True := trivial
theorem start.tw17644843959824047833 : True := trivial
theorem start.tw13308894021665360601 : True := trivial
theorem start.tw6320073813796548281 : True := trivial
theorem start.tw4534378380053838489 : True := trivial
theorem start.tw2483601339813083225 : True := trivial
theorem start.tw4021389460773389881 : True := trivial
theorem start.tw751009271676656121 : True := trivial
theorem start.tw2189000639686004217 : True := trivial
theorem start.tw5807923609884686297 : True := trivial
theorem start.tw17208366377874095033 : True := trivial
theorem start.tw4096476469174394809 : True := trivial
theorem start.tw6820916578586029977 : True := trivial
theorem start.tw15002075712549575033 : True := trivial
theorem start.tw18110874152537612089 : True := trivial
theorem start.tw2899944120506069817 : True := trivial
theorem start.tw2160922765095862041 : True := trivial
theorem start.tw6313870458855700665 : True := trivial
theorem start.tw6993159309513893049 : True := trivial
theorem start.tw2091815929069227193 : True := trivial
theorem start.tw12020009927170879065 : True := trivial
theorem start.tw993609865106803769 : True := trivial
theorem start.tw2121500367327332409 : True := trivial
theorem start.tw827291719199365145 : True := trivial
theorem start.tw3346069104298001401 : True := trivial
theorem start.tw7234724640864526329 : True := trivial
theorem start.tw11274528959917008345 : True := trivial
theorem start.tw2144695970269148569 : True := trivial
theorem start.tw113785316762442137 : True := trivial
theorem start.tw5350391108227853177 : True := trivial
theorem start.tw15549133422725463897 : True := trivial
theorem start.tw3641368905488311129 : True := trivial
theorem start.tw17962237741247617305 : True := trivial
theorem start.tw1814143896385978649 : True := trivial
theorem start.tw9604043045654904174 : True := trivial
theorem start.tw4101441957747412334 : True := trivial
theorem start.tw5686142118597154094 : True := trivial
theorem start.tw7966102913357665582 : True := trivial
theorem start.tw8286474497142375182 : True := trivial
theorem start.tw17364498436681334510 : True := trivial
theorem start.tw18316072092820847342 : True := trivial
theorem start.tw2173650691415029966 : True := trivial
theorem start.tw12844940183573825742 : True := trivial
theorem start.tw11736440664847846574 : True := trivial
theorem start.tw14547894878382252174 : True := trivial
theorem start.tw1014821477896300686 : True := trivial
theorem start.tw419833287276871822 : True := trivial
theorem start.tw10064086093737316974 : True := trivial
theorem start.tw17872758124487082574 : True := trivial
theorem start.tw6693646311986828878 : True := trivial
theorem start.tw12037960844953941582 : True := trivial
theorem start.tw7732541805449003598 : True := trivial
theorem start.tw12856299244209420846 : True := trivial
theorem start.tw626431780956221998 : True := trivial
theorem start.tw13333638043422465038 : True := trivial
theorem start.tw3708851277778143246 : True := trivial
theorem start.tw9524579695374235662 : True := trivial
theorem start.tw15013542661754470382 : True := trivial
theorem start.tw1914635611138000878 : True := trivial
theorem start.tw8198514253321417710 : True := trivial
theorem start.tw14820544678486801390 : True := trivial
theorem start.tw7296503033550578670 : True := trivial
theorem start.tw4111870973251840462 : True := trivial
theorem start.tw6845423489704531374 : True := trivial
theorem start.tw14873247220012342670 : True := trivial
theorem start.tw1163058363334647662 : True := trivial
theorem start.tw11819115033627348846 : True := trivial
theorem start.tw11537366179391470382 : True := trivial
theorem start.tw6684089845949807886 : True := trivial
theorem start.tw1244178384629158158 : True := trivial
theorem start.tw15321050195449412846 : True := trivial
theorem start.tw13562802254548909774 : True := trivial
theorem start.tw16457440341781371598 : True := trivial
theorem start.tw9063719940658950862 : True := trivial
theorem start.tw2833338335051674286 : True := trivial
theorem start.tw15547995186967341166 : True := trivial
theorem start.tw2449034558066136142 : True := trivial
theorem start.tw13480741558306022926 : True := trivial
theorem start.tw4415125262503013870 : True := trivial
theorem start.tw9174007243894591191 : True := trivial
theorem start.tw13709482432601437911 : True := trivial
theorem start.tw14477687188957346999 : True := trivial
theorem start.tw7033103840961320119 : True := trivial
theorem start.tw6254679726590455959 : True := trivial
theorem start.tw4705660448184143991 : True := trivial
theorem start.tw18372018633996522039 : True := trivial
theorem start.tw14474507695483353655 : True := trivial
theorem start.tw4071420402475373111 : True := trivial
theorem start.tw2371359373559169559 : True := trivial
theorem start.tw17797073535829235703 : True := trivial
theorem start.tw16999125500060474359 : True := trivial
theorem start.tw9789922638057339863 : True := trivial
theorem start.tw6459064524934339543 : True := trivial
theorem start.tw9882248637172606359 : True := trivial
theorem start.tw3704445879738020215 : True := trivial
theorem start.tw11768168530304333623 : True := trivial
theorem start.tw4935909050641881911 : True := trivial
theorem start.tw10038272130459903799 : True := trivial
theorem start.tw17079026505719179031 : True := trivial
theorem start.tw4783371997340724471 : True := trivial
theorem start.tw3029634473368176855 : True := trivial
theorem start.tw1326678079250461367 : True := trivial
theorem start.tw5228573260283123319 : True := trivial
theorem start.tw3229782483631852151 : True := trivial
theorem start.tw14393265252317892695 : True := trivial
theorem start.tw4803885432946309207 : True := trivial
theorem start.tw5324242307659298871 : True := trivial
theorem start.tw16293998891125837879 : True := trivial
theorem start.tw1122276685736748087 : True := trivial
theorem start.tw10672184762559223735 : True := trivial
theorem start.tw12993564669486197623 : True := trivial
theorem start.tw17274606301187547479 : True := trivial
theorem start.tw8260875961190964567 : True := trivial
theorem start.tw7032114803196955927 : True := trivial
theorem start.tw8028026729672606999 : True := trivial
theorem start.tw13111383069973485847 : True := trivial
theorem start.tw292413555295965463 : True := trivial
theorem start.tw8612617738795429836 : True := trivial
theorem start.tw4267235259975054284 : True := trivial
theorem start.tw9160558225074830284 : True := trivial
theorem start.tw11895988940914117548 : True := trivial
theorem start.tw15286490510858441644 : True := trivial
theorem start.tw14983868159265772940 : True := trivial
theorem start.tw2509830375835568524 : True := trivial
theorem start.tw14700465502827656588 : True := trivial
theorem start.tw16503433454160997772 : True := trivial
theorem start.tw3283801196865858380 : True := trivial
theorem start.tw13426591958469893932 : True := trivial
theorem start.tw15253042966265576236 : True := trivial
theorem start.tw3833056311839428364 : True := trivial
theorem start.tw6145548216860323596 : True := trivial
theorem start.tw3359438640655936748 : True := trivial
theorem start.tw6042347227552962796 : True := trivial
theorem start.tw11600583349357906124 : True := trivial
theorem start.tw6006647764823276716 : True := trivial
theorem start.tw5252212485233984140 : True := trivial
theorem start.tw15460482413098270348 : True := trivial
theorem start.tw2684713800761481292 : True := trivial
theorem start.tw6294020025667768332 : True := trivial
theorem start.tw15314178562274580972 : True := trivial
theorem start.tw523140332074665388 : True := trivial
theorem start.tw17180567933433146796 : True := trivial
theorem start.tw12781963438101115308 : True := trivial
theorem start.tw12872605902812299148 : True := trivial
theorem start.tw14596823952127841164 : True := trivial
theorem start.tw12930117881492943756 : True := trivial
theorem start.tw4360709118424190828 : True := trivial
theorem start.tw7281163572903420236 : True := trivial
theorem start.tw4407424450503115084 : True := trivial
theorem start.tw9235830811371803948 : True := trivial
theorem start.tw13591943342992216332 : True := trivial
theorem start.tw6142595154453272844 : True := trivial
theorem start.tw12731182214620538124 : True := trivial
theorem start.tw7858711165760720588 : True := trivial
theorem start.tw5048973751059856044 : True := trivial
theorem start.tw6543974260034262700 : True := trivial
theorem start.tw11196289082563643052 : True := trivial
theorem start.tw1525540884270190156 : True := trivial
theorem start.tw14639995431056452140 : True := trivial
theorem start.tw2903057833498219020 : True := trivial
theorem start.tw13707255002394170892 : True := trivial
theorem start.tw631211119027246604 : True := trivial
theorem start.tw3659425581492298732 : True := trivial
theorem start.tw5538547434400875701 : True := trivial
theorem start.tw5857674150025610869 : True := trivial
theorem start.tw11839026189977184885 : True := trivial
theorem start.tw12758500957240422997 : True := trivial
theorem start.tw17152178836202728021 : True := trivial
theorem start.tw8778767268595693141 : True := trivial
theorem start.tw16054318934991965781 : True := trivial
theorem start.tw16477740952752641621 : True := trivial
theorem start.tw11233062662675937333 : True := trivial
theorem start.tw1891142927305358389 : True := trivial
theorem start.tw7319411753421724725 : True := trivial
theorem start.tw11514171421771743221 : True := trivial
theorem start.tw2760461246262074357 : True := trivial
theorem start.tw10715223473143439797 : True := trivial
theorem start.tw6683227091156019093 : True := trivial
theorem start.tw1432107800390854517 : True := trivial
theorem start.tw9614663113696743285 : True := trivial
theorem start.tw5076455622205259605 : True := trivial
theorem start.tw4208575673967426869 : True := trivial
theorem start.tw12968807967646200533 : True := trivial
theorem start.tw4628409958084146869 : True := trivial
theorem start.tw4833427186868235957 : True := trivial
theorem start.tw9029196695056571541 : True := trivial
theorem start.tw12484504917796922517 : True := trivial
theorem start.tw9625308564142860437 : True := trivial
theorem start.tw10611587563259889813 : True := trivial
theorem start.tw3093200388667074709 : True := trivial
theorem start.tw14251864922686748789 : True := trivial
theorem start.tw9379188237617391733 : True := trivial
theorem start.tw17225222500672107637 : True := trivial
theorem start.tw12023685323088458293 : True := trivial
theorem start.tw13244396943685908021 : True := trivial
theorem start.tw3667819508263176725 : True := trivial
theorem start.tw8808484263546068469 : True := trivial
theorem start.tw7871931934585666037 : True := trivial
theorem start.tw14073776733000436213 : True := trivial
theorem start.tw2872099368665121749 : True := trivial
theorem start.tw14057544619940255701 : True := trivial
theorem start.tw14947010814359107509 : True := trivial
theorem start.tw6511257537639079285 : True := trivial
theorem start.tw9793492685088317813 : True := trivial
theorem start.tw976670451050402165 : True := trivial
theorem start.tw3279492424513810773 : True := trivial
theorem start.tw2452990270991495509 : True := trivial
theorem start.tw6203294516592931157 : True := trivial
theorem start.tw992675333229265237 : True := trivial
theorem start.tw1396239113022397237 : True := trivial
theorem start.tw10574407053732338122 : True := trivial
theorem start.tw2231664466586804618 : True := trivial
theorem start.tw8811631145723101578 : True := trivial
theorem start.tw6475660193997521770 : True := trivial
theorem start.tw168666210691155818 : True := trivial
theorem start.tw17617283952631734090 : True := trivial
theorem start.tw15257304787357524266 : True := trivial
theorem start.tw14902222667023906026 : True := trivial
theorem start.tw14536780076569158346 : True := trivial
theorem start.tw1182529871604385482 : True := trivial
theorem start.tw5869544010403590858 : True := trivial
theorem start.tw1755374640169475786 : True := trivial
theorem start.tw2412874864914754218 : True := trivial
theorem start.tw779910978318358186 : True := trivial
theorem start.tw5931840596702134378 : True := trivial
theorem start.tw9995070489755063402 : True := trivial
theorem start.tw5039708750730549322 : True := trivial
theorem start.tw4873129062818046026 : True := trivial
theorem start.tw11957878954625667146 : True := trivial
theorem start.tw11578335738457062922 : True := trivial
theorem start.tw4408194353901652490 : True := trivial
theorem start.tw16550322323701658090 : True := trivial
theorem start.tw12075851827126478314 : True := trivial
theorem start.tw641116667791029194 : True := trivial
theorem start.tw15019014760644660170 : True := trivial
theorem start.tw520099597367440330 : True := trivial
theorem start.tw5817132615572681610 : True := trivial
theorem start.tw3135249391326859146 : True := trivial
theorem start.tw13260201632746869098 : True := trivial
theorem start.tw5862658588434727274 : True := trivial
theorem start.tw2729091125747391818 : True := trivial
theorem start.tw13116154436309727018 : True := trivial
theorem start.tw12045629746328621866 : True := trivial
theorem start.tw3003975950817812234 : True := trivial
theorem start.tw8944090142537402122 : True := trivial
theorem start.tw18143729521420815498 : True := trivial
theorem start.tw7186470576836228714 : True := trivial
theorem start.tw9234891707218591306 : True := trivial
theorem start.tw15309192189439926314 : True := trivial
theorem start.tw18311057053049918506 : True := trivial
theorem start.tw16567402656987723786 : True := trivial
theorem start.tw8388831611194855434 : True := trivial
theorem start.tw16512877326882534410 : True := trivial
theorem start.tw16519796694419904490 : True := trivial
theorem start.tw17667823597720143850 : True := trivial
theorem start.tw14248269792978742250 : True := trivial
theorem start.tw1056590594664343795 : True := trivial
theorem start.tw11114804572050175219 : True := trivial
theorem start.tw8858869129780802803 : True := trivial
theorem start.tw8793428691314594003 : True := trivial
theorem start.tw3416018627943510707 : True := trivial
theorem start.tw2902308730517543603 : True := trivial
theorem start.tw3602786135453326003 : True := trivial
theorem start.tw15677430068336428723 : True := trivial
theorem start.tw16456700417754948243 : True := trivial
theorem start.tw12870158191303314035 : True := trivial
theorem start.tw13367810283201096787 : True := trivial
theorem start.tw18123184137694459987 : True := trivial
theorem start.tw51270839785069651 : True := trivial
theorem start.tw16233311702245401683 : True := trivial
theorem start.tw7800862309109974547 : True := trivial
theorem start.tw7852333199319042547 : True := trivial
theorem start.tw16833753011020790259 : True := trivial
theorem start.tw7217254086116277747 : True := trivial
theorem start.tw13642518471283741139 : True := trivial
theorem start.tw6299543008190290867 : True := trivial
theorem start.tw2950061752578733971 : True := trivial
theorem start.tw15435456841401835411 : True := trivial
theorem start.tw10125969007057268595 : True := trivial
theorem start.tw6553178904060255571 : True := trivial
theorem start.tw517875696627142963 : True := trivial
theorem start.tw10567373899616799027 : True := trivial
theorem start.tw17122724309641236787 : True := trivial
theorem start.tw16375269937859498739 : True := trivial
theorem start.tw16301145492458089203 : True := trivial
theorem start.tw17193021830729122995 : True := trivial
theorem start.tw6874733407442515091 : True := trivial
theorem start.tw15280055162676435059 : True := trivial
theorem start.tw2666954026499672179 : True := trivial
theorem start.tw2954186835034572915 : True := trivial
theorem start.tw1551836070261168723 : True := trivial
theorem start.tw5266538933142212627 : True := trivial
theorem start.tw11247642196086513651 : True := trivial
theorem start.tw3637575161219850227 : True := trivial
theorem start.tw6616981830118633459 : True := trivial
theorem start.tw11353746720657220019 : True := trivial
theorem start.tw2078050629947358611 : True := trivial
theorem start.tw14840333804538368371 : True := trivial
theorem start.tw17608163925937731411 : True := trivial
theorem start.tw6198585682213826387 : True := trivial
theorem start.tw2273451549950469971 : True := trivial
theorem start.tw3497718688429386547 : True := trivial
theorem start.tw8044037824684978995 : True := trivial
theorem start.tw7200860361410435528 : True := trivial
theorem start.tw13341567280275274184 : True := trivial
theorem start.tw14458119127683944360 : True := trivial
theorem start.tw3474846242717793192 : True := trivial
theorem start.tw3747129165245494152 : True := trivial
theorem start.tw12857314361991061800 : True := trivial
theorem start.tw8539421427285020936 : True := trivial
theorem start.tw14395465328585553160 : True := trivial
theorem start.tw1924393653714940648 : True := trivial
theorem start.tw12295788682964501672 : True := trivial
theorem start.tw1931659650003800232 : True := trivial
theorem start.tw2969569015930925224 : True := trivial
theorem start.tw5785124832253575272 : True := trivial
theorem start.tw7540123740650744936 : True := trivial
theorem start.tw18241168143133284936 : True := trivial
theorem start.tw11321436646279085640 : True := trivial
theorem start.tw2176641142077479464 : True := trivial
theorem start.tw4248326373209337384 : True := trivial
theorem start.tw11867025428019494408 : True := trivial
theorem start.tw1059494450178240008 : True := trivial
theorem start.tw12643302756804206088 : True := trivial
theorem start.tw9231732870831761928 : True := trivial
theorem start.tw7169939453428502504 : True := trivial
theorem start.tw3288799719601998792 : True := trivial
theorem start.tw8410258839761412040 : True := trivial
theorem start.tw147240797894642056 : True := trivial
theorem start.tw18320566713017392520 : True := trivial
theorem start.tw14636230501264598408 : True := trivial
theorem start.tw15694030007313916264 : True := trivial
theorem start.tw11192545172964775752 : True := trivial
theorem start.tw18339681872049216328 : True := trivial
theorem start.tw15330613741697011528 : True := trivial
theorem start.tw9024179457331214568 : True := trivial
theorem start.tw16161015865395186920 : True := trivial
theorem start.tw14401941607993512168 : True := trivial
theorem start.tw13167487140432302280 : True := trivial
theorem start.tw7132725937439226536 : True := trivial
theorem start.tw8742164780865410696 : True := trivial
theorem start.tw12183615272741616232 : True := trivial
theorem start.tw9647573301477752424 : True := trivial
theorem start.tw8148151548332345960 : True := trivial
theorem start.tw12615370955078839912 : True := trivial
theorem start.tw3769446547284641864 : True := trivial
theorem start.tw17048523870888247368 : True := trivial
theorem start.tw13624768689923814472 : True := trivial
theorem start.tw18155290316632231944 : True := trivial
theorem start.tw828458391699161096 : True := trivial
theorem start.tw8264554903048689672 : True := trivial
theorem start.tw15818329168893121000 : True := trivial
theorem start.tw4515102214391473 : True := trivial
theorem start.tw8092534509107300017 : True := trivial
theorem start.tw1621843392062109841 : True := trivial
theorem start.tw13372192252234481809 : True := trivial
theorem start.tw9380995833087256721 : True := trivial
theorem start.tw8706500727581584497 : True := trivial
theorem start.tw14606145234154249329 : True := trivial
theorem start.tw3608911270405303825 : True := trivial
theorem start.tw9980885882641151505 : True := trivial
theorem start.tw18178434653788847633 : True := trivial
theorem start.tw12677695518192187889 : True := trivial
theorem start.tw3603637156265229809 : True := trivial
theorem start.tw12140339657409565169 : True := trivial
theorem start.tw2817000115093026289 : True := trivial
theorem start.tw3894302315717773265 : True := trivial
theorem start.tw3658327772833033169 : True := trivial
theorem start.tw3678990699197067217 : True := trivial
theorem start.tw2962782493792764849 : True := trivial
theorem start.tw10731786494011689905 : True := trivial
theorem start.tw6347347021374800273 : True := trivial
theorem start.tw2197940775589374321 : True := trivial
theorem start.tw1167580957292824945 : True := trivial
theorem start.tw6290050046387806545 : True := trivial
theorem start.tw13549941044971861329 : True := trivial
theorem start.tw242437421002361169 : True := trivial
theorem start.tw5407285819216419153 : True := trivial
theorem start.tw924383876905898801 : True := trivial
theorem start.tw13532508928649084689 : True := trivial
theorem start.tw5342813634099308305 : True := trivial
theorem start.tw16091734026433790705 : True := trivial
theorem start.tw15833834700936669393 : True := trivial
theorem start.tw16957604735783200945 : True := trivial
theorem start.tw7043302653037036721 : True := trivial
theorem start.tw1797443199517472401 : True := trivial
theorem start.tw14037310978776348273 : True := trivial
theorem start.tw15792190913346543217 : True := trivial
theorem start.tw2862964447061751377 : True := trivial
theorem start.tw7701398062092485201 : True := trivial
theorem start.tw9146681702260849713 : True := trivial
theorem start.tw10976910684628815921 : True := trivial
theorem start.tw17444621431791881233 : True := trivial
theorem start.tw15264148574584613873 : True := trivial
theorem start.tw211161475956698097 : True := trivial
theorem start.tw11243229266992435665 : True := trivial
theorem start.tw2743239430368151985 : True := trivial
theorem start.tw4866928272281420209 : True := trivial
theorem start.tw2275934510162002833 : True := trivial
theorem start.tw8142244480052254577 : True := trivial
theorem start.tw12174589106525291377 : True := trivial
theorem start.tw6425367903962369873 : True := trivial
theorem start.tw5219424620683764017 : True := trivial
theorem start.tw7919139301135346993 : True := trivial
theorem start.tw5656164615352456465 : True := trivial
theorem start.tw13009293094385632198 : True := trivial
theorem start.tw9637988212184714598 : True := trivial
theorem start.tw249892742833836390 : True := trivial
theorem start.tw7147743592398358886 : True := trivial
theorem start.tw10644856984734585190 : True := trivial
theorem start.tw8866348115524990278 : True := trivial
theorem start.tw3677406859561734950 : True := trivial
theorem start.tw4240643453168473862 : True := trivial
theorem start.tw7766544627088921350 : True := trivial
theorem start.tw15748468788475473638 : True := trivial
theorem start.tw4762647943490707174 : True := trivial
theorem start.tw16662076710937308358 : True := trivial
theorem start.tw18438208277841240230 : True := trivial
theorem start.tw9502979734546282662 : True := trivial
theorem start.tw4558702765538637958 : True := trivial
theorem start.tw3336425497172613702 : True := trivial
theorem start.tw4432806411569616454 : True := trivial
theorem start.tw1285558260497304134 : True := trivial
theorem start.tw16313013341411421222 : True := trivial
theorem start.tw15695430582301858854 : True := trivial
theorem start.tw11695920413265410086 : True := trivial
theorem start.tw5282934425664418854 : True := trivial
theorem start.tw12753237826402300934 : True := trivial
theorem start.tw2710996252947694598 : True := trivial
theorem start.tw3517462122869849062 : True := trivial
theorem start.tw14325968080366993382 : True := trivial
theorem start.tw4316680968796060102 : True := trivial
theorem start.tw13942197395568627078 : True := trivial
theorem start.tw4164671193876764038 : True := trivial
theorem start.tw9679978090333646214 : True := trivial
theorem start.tw3707157105579151654 : True := trivial
theorem start.tw9761806553166987558 : True := trivial
theorem start.tw13481826036015445286 : True := trivial
theorem start.tw15811543541574151430 : True := trivial
theorem start.tw6350171191891966662 : True := trivial
theorem start.tw14313150833548981958 : True := trivial
theorem start.tw18123210609936547526 : True := trivial
theorem start.tw1393493367484364454 : True := trivial
theorem start.tw7336110578437244582 : True := trivial
theorem start.tw10227410813293868678 : True := trivial
theorem start.tw2458882682658179174 : True := trivial
theorem start.tw4593590491202113606 : True := trivial
theorem start.tw10547227613518023206 : True := trivial
theorem start.tw5353323340090096134 : True := trivial
theorem start.tw17727585124588514790 : True := trivial
theorem start.tw13838106783540065455 : True := trivial
theorem start.tw12211353891666813103 : True := trivial
theorem start.tw16251424700618122351 : True := trivial
theorem start.tw10681914829406148175 : True := trivial
theorem start.tw4897694750201601615 : True := trivial
theorem start.tw5527323325336766479 : True := trivial
theorem start.tw1952687247855459343 : True := trivial
theorem start.tw9708929031787914223 : True := trivial
theorem start.tw15421093739976270799 : True := trivial
theorem start.tw3178393045220075471 : True := trivial
theorem start.tw1142461508163639247 : True := trivial
theorem start.tw18275597943863956431 : True := trivial
theorem start.tw4523525781280487375 : True := trivial
theorem start.tw15038125611325952431 : True := trivial
theorem start.tw8940672240600724911 : True := trivial
theorem start.tw12881668181679849903 : True := trivial
theorem start.tw9268082226790557103 : True := trivial
theorem start.tw2318993150029944655 : True := trivial
theorem start.tw9756248088324893487 : True := trivial
theorem start.tw16281544109171565839 : True := trivial
theorem start.tw18244583256327275791 : True := trivial
theorem start.tw118988350672946447 : True := trivial
theorem start.tw7097164330468599023 : True := trivial
theorem start.tw10939804101317392591 : True := trivial
theorem start.tw96742382921350831 : True := trivial
theorem start.tw101842562901430959 : True := trivial
theorem start.tw6130462179041138319 : True := trivial
theorem start.tw2608660062973563535 : True := trivial
theorem start.tw16882896356739417167 : True := trivial
theorem start.tw5311209230275643439 : True := trivial
theorem start.tw10220801842176807983 : True := trivial
theorem start.tw3552726081088029199 : True := trivial
theorem start.tw10904344895396813295 : True := trivial
theorem start.tw11905519880255695343 : True := trivial
theorem start.tw4930350370424638959 : True := trivial
theorem start.tw13647338383971202511 : True := trivial
theorem start.tw6446329162333966799 : True := trivial
theorem start.tw246559682590865327 : True := trivial
theorem start.tw10828051081026905999 : True := trivial
theorem start.tw13320861914816205679 : True := trivial
theorem start.tw9297056409223601455 : True := trivial
theorem start.tw5389191215519112132 : True := trivial
theorem start.tw10914123408393849796 : True := trivial
theorem start.tw3091395431936914852 : True := trivial
theorem start.tw5804185627879647588 : True := trivial
theorem start.tw16032470255106087268 : True := trivial
theorem start.tw16894346965717989156 : True := trivial
theorem start.tw14113022587722285828 : True := trivial
theorem start.tw15665592732389395684 : True := trivial
theorem start.tw192601091567896772 : True := trivial
theorem start.tw3883944789418087076 : True := trivial
theorem start.tw8972950314469783204 : True := trivial
theorem start.tw7818210767329202820 : True := trivial
theorem start.tw9769703777621641828 : True := trivial
theorem start.tw11416383029580651588 : True := trivial
theorem start.tw431898953653278180 : True := trivial
theorem start.tw4109809864998676388 : True := trivial
theorem start.tw11548516149769899908 : True := trivial
theorem start.tw2103405487870525764 : True := trivial
theorem start.tw3054359846253565252 : True := trivial
theorem start.tw1396150399518908708 : True := trivial
theorem start.tw13543715252891330852 : True := trivial
theorem start.tw8890592587482840356 : True := trivial
theorem start.tw6681291836361134372 : True := trivial
theorem start.tw15747846570331785956 : True := trivial
theorem start.tw8821534659478319844 : True := trivial
theorem start.tw15417162127461295812 : True := trivial
theorem start.tw18266400603242378948 : True := trivial
theorem start.tw15249864134806059172 : True := trivial
theorem start.tw9864464879242614948 : True := trivial
theorem start.tw2403591380739708068 : True := trivial
theorem start.tw2798276417569665156 : True := trivial
theorem start.tw17636441805671567492 : True := trivial
theorem start.tw6253599620253796484 : True := trivial
theorem start.tw5673351307311720580 : True := trivial
theorem start.tw16049540519638326372 : True := trivial
theorem start.tw1209139127926118500 : True := trivial
theorem start.tw8021738245067971140 : True := trivial
theorem start.tw15931756652501871172 : True := trivial
theorem start.tw11350478478367053348 : True := trivial
theorem start.tw14833390065407582756 : True := trivial
theorem start.tw15256295587922999844 : True := trivial
theorem start.tw6628246026321192452 : True := trivial
theorem start.tw5876845406418731524 : True := trivial
theorem start.tw8864994291534048228 : True := trivial
theorem start.tw7370835765415534564 : True := trivial
theorem start.tw17980565995373286372 : True := trivial
theorem start.tw9503172900980008685 : True := trivial
theorem start.tw9876903954082603213 : True := trivial
theorem start.tw3937190591911018669 : True := trivial
theorem start.tw13162706738920238733 : True := trivial
theorem start.tw4840815076443097741 : True := trivial
theorem start.tw9391402655107586669 : True := trivial
theorem start.tw13173877081081046605 : True := trivial
theorem start.tw14795558843428944461 : True := trivial
theorem start.tw4051542448740077581 : True := trivial
theorem start.tw10398936586077280269 : True := trivial
theorem start.tw927878497129661421 : True := trivial
theorem start.tw1462141983660345805 : True := trivial
theorem start.tw686874050458130861 : True := trivial
theorem start.tw14122379085980082029 : True := trivial
theorem start.tw11782826611192293229 : True := trivial
theorem start.tw7836117103888656685 : True := trivial
theorem start.tw16707491212384702733 : True := trivial
theorem start.tw2798977932305561837 : True := trivial
theorem start.tw1045674369185948365 : True := trivial
theorem start.tw17110318267969426125 : True := trivial
theorem start.tw8140232180987069101 : True := trivial
theorem start.tw18301823405727786669 : True := trivial
theorem start.tw8290667058123098797 : True := trivial
theorem start.tw1002010821244518541 : True := trivial
theorem start.tw2350895540619278445 : True := trivial
theorem start.tw1606173512002594925 : True := trivial
theorem start.tw13261809887968178733 : True := trivial
theorem start.tw15117158530286259757 : True := trivial
theorem start.tw14623630074146746925 : True := trivial
theorem start.tw9393873497199360525 : True := trivial
theorem start.tw1193046316892222957 : True := trivial
theorem start.tw15121704190510916525 : True := trivial
theorem start.tw13109542842452226989 : True := trivial
theorem start.tw14576838489376924589 : True := trivial
theorem start.tw5863233569229126029 : True := trivial
theorem start.tw16987903417161257357 : True := trivial
theorem start.tw8575250789880554861 : True := trivial
theorem start.tw16513986117408277293 : True := trivial
theorem start.tw5026035449803565 : True := trivial
theorem start.tw18266136119485097741 : True := trivial
theorem start.tw5195942455593045773 : True := trivial
theorem start.tw11051551376527943106 : True := trivial
theorem start.tw319288516148075970 : True := trivial
theorem start.tw8386816699393444226 : True := trivial
theorem start.tw11450060988958697858 : True := trivial
theorem start.tw11114980320506141506 : True := trivial
theorem start.tw12006241391302767906 : True := trivial
theorem start.tw6202489966963745058 : True := trivial
theorem start.tw3760985342138892546 : True := trivial
theorem start.tw9308218132597597442 : True := trivial
theorem start.tw10682634750584728834 : True := trivial
theorem start.tw6283314143466761442 : True := trivial
theorem start.tw14316393300618327746 : True := trivial
theorem start.tw14109471546406699714 : True := trivial
theorem start.tw18014139653820417730 : True := trivial
theorem start.tw4840078422858550946 : True := trivial
theorem start.tw9669919593388085922 : True := trivial
theorem start.tw13887761197490438818 : True := trivial
theorem start.tw9435247015700432514 : True := trivial
theorem start.tw14748810509153483874 : True := trivial
theorem start.tw4513858398393975330 : True := trivial
theorem start.tw9081943665941736994 : True := trivial
theorem start.tw17942435784457646626 : True := trivial
theorem start.tw6290611086059658722 : True := trivial
theorem start.tw13659325332475685346 : True := trivial
theorem start.tw16596527348804848546 : True := trivial
theorem start.tw11005936589462952834 : True := trivial
theorem start.tw3989171006976249154 : True := trivial
theorem start.tw11150067764351464770 : True := trivial
theorem start.tw3493764669783113442 : True := trivial
theorem start.tw11332996934934918338 : True := trivial
theorem start.tw163857066556273858 : True := trivial
theorem start.tw4076751322791145602 : True := trivial
theorem start.tw1380608951662662210 : True := trivial
theorem start.tw12987748427218533410 : True := trivial
theorem start.tw7497491764449124587 : True := trivial
theorem start.tw14010158078136937675 : True := trivial
theorem start.tw11465329630109224139 : True := trivial
theorem start.tw2392167945315023051 : True := trivial
theorem start.tw14460740549520293067 : True := trivial
theorem start.tw17430772151245488779 : True := trivial
theorem start.tw16435025994813124235 : True := trivial
theorem start.tw11639569734264510091 : True := trivial
theorem start.tw6051144380381925003 : True := trivial
theorem start.tw2492101602691646091 : True := trivial
theorem start.tw2780034832081024651 : True := trivial
theorem start.tw6358908053716622955 : True := trivial
theorem start.tw14551895628187418219 : True := trivial
theorem start.tw4970164846725387339 : True := trivial
theorem start.tw505314396975702091 : True := trivial
theorem start.tw89189691648329803 : True := trivial
theorem start.tw15864141136047534123 : True := trivial
theorem start.tw11065317324486428715 : True := trivial
theorem start.tw788559296003852811 : True := trivial
theorem start.tw16436036690331745803 : True := trivial
theorem start.tw17421630147870089739 : True := trivial
theorem start.tw7302785691442881035 : True := trivial
theorem start.tw2015379205883945451 : True := trivial
theorem start.tw8927587859644765675 : True := trivial
theorem start.tw6603547252595029483 : True := trivial
theorem start.tw9537801125807077835 : True := trivial
theorem start.tw10334142534018225611 : True := trivial
theorem start.tw10501498833042383307 : True := trivial
theorem start.tw18181507959832138667 : True := trivial
theorem start.tw5861464746241340331 : True := trivial
theorem start.tw8485405222586803115 : True := trivial
theorem start.tw7120406824380328843 : True := trivial
theorem start.tw9200079422081182603 : True := trivial
theorem start.tw150470932757535595 : True := trivial
theorem start.tw1615620459876537643 : True := trivial
theorem start.tw17399652645578457387 : True := trivial
theorem start.tw10008899609196907275 : True := trivial
theorem start.tw6066350910807731979 : True := trivial
theorem start.tw14338698898842541835 : True := trivial
theorem start.tw728195647713161995 : True := trivial
theorem start.tw10637510242814169835 : True := trivial
theorem start.tw12206321639384909547 : True := trivial
theorem start.tw3636700800646005899 : True := trivial
theorem start.tw12481002328230594123 : True := trivial
theorem start.tw6138337087071021643 : True := trivial
theorem start.tw6977641467840032331 : True := trivial
theorem start.tw6352915914329039403 : True := trivial
theorem start.tw3018648563667389387 : True := trivial
theorem start.tw13844196935448090571 : True := trivial
theorem start.tw13089946322797308747 : True := trivial
theorem start.tw4688668493893846859 : True := trivial
theorem start.tw16719052189565925195 : True := trivial
theorem start.tw8150769653266692907 : True := trivial
theorem start.tw5413493817652268843 : True := trivial
theorem start.tw924075372738700555 : True := trivial
theorem start.tw15002627176137754528 : True := trivial
theorem start.tw5863310578717536128 : True := trivial
theorem start.tw2939965945650715488 : True := trivial
theorem start.tw9628210136215391072 : True := trivial
theorem start.tw4811539907914749792 : True := trivial
theorem start.tw10748023888566881600 : True := trivial
theorem start.tw4738887392626759968 : True := trivial
theorem start.tw6523918462576080640 : True := trivial
theorem start.tw17360257157567406816 : True := trivial
theorem start.tw4981728614688221344 : True := trivial
theorem start.tw8852515364797430912 : True := trivial
theorem start.tw4459778697719426144 : True := trivial
theorem start.tw16797253571589481568 : True := trivial
theorem start.tw12909347834051434016 : True := trivial
theorem start.tw15035842027946799104 : True := trivial
theorem start.tw6497851259924824064 : True := trivial
theorem start.tw401551047668677600 : True := trivial
theorem start.tw7481130787740379104 : True := trivial
theorem start.tw6849877040589835200 : True := trivial
theorem start.tw351426358774870976 : True := trivial
theorem start.tw351869014087072 : True := trivial
theorem start.tw5612288404143481248 : True := trivial
theorem start.tw580029128654460288 : True := trivial
theorem start.tw9763967742945331584 : True := trivial
theorem start.tw5682270308144964960 : True := trivial
theorem start.tw17504940859800808256 : True := trivial
theorem start.tw10682489353257151296 : True := trivial
theorem start.tw11087110100824057088 : True := trivial
theorem start.tw7474601805572362496 : True := trivial
theorem start.tw13005884127717118176 : True := trivial
theorem start.tw301775347482478240 : True := trivial
theorem start.tw13076077472652623488 : True := trivial
theorem start.tw4243246026202228320 : True := trivial
theorem start.tw1317914427105380416 : True := trivial
theorem start.tw10732604136605432864 : True := trivial
theorem start.tw6133493952842606080 : True := trivial
theorem start.tw7603674461939147264 : True := trivial
theorem start.tw9582443753598666240 : True := trivial
theorem start.tw2075492525942671840 : True := trivial
theorem start.tw16466916782383446761 : True := trivial
theorem start.tw10801608310023404201 : True := trivial
theorem start.tw16724022707400641193 : True := trivial
theorem start.tw793819963732328105 : True := trivial
theorem start.tw3714281523508510825 : True := trivial
theorem start.tw14109449957004545097 : True := trivial
theorem start.tw8115177060296570953 : True := trivial
theorem start.tw17075315717025278025 : True := trivial
theorem start.tw13932109358706593321 : True := trivial
theorem start.tw3465884391052083721 : True := trivial
theorem start.tw4653890201700107657 : True := trivial
theorem start.tw12550227763521062249 : True := trivial
theorem start.tw12460651530783410505 : True := trivial
theorem start.tw17583987187075349289 : True := trivial
theorem start.tw3713530319519625993 : True := trivial
theorem start.tw873708653276409065 : True := trivial
theorem start.tw1672581245150505193 : True := trivial
theorem start.tw1924955042806615273 : True := trivial
theorem start.tw17226146755749639369 : True := trivial
theorem start.tw15929609554976430249 : True := trivial
theorem start.tw4305728508467157161 : True := trivial
theorem start.tw17006203998360369801 : True := trivial
theorem start.tw713027820691929737 : True := trivial
theorem start.tw14433347718769846921 : True := trivial
theorem start.tw3843635793564126857 : True := trivial
theorem start.tw15112216828467021417 : True := trivial
theorem start.tw7917097737822866025 : True := trivial
theorem start.tw10171596652552467017 : True := trivial
theorem start.tw11185183018460493385 : True := trivial
theorem start.tw7283988520526666313 : True := trivial
theorem start.tw10236633191473811497 : True := trivial
theorem start.tw10313859562859858409 : True := trivial
theorem start.tw6768873595407496681 : True := trivial
theorem start.tw11387162955540087273 : True := trivial
theorem start.tw12419252679423266281 : True := trivial
theorem start.tw10326157618726984169 : True := trivial
theorem start.tw1044513534092345833 : True := trivial
theorem start.tw11179041960637338057 : True := trivial
theorem start.tw18034678352443017673 : True := trivial
theorem start.tw18445615512726145449 : True := trivial
theorem start.tw5653792770173048233 : True := trivial
theorem start.tw11927866243647667081 : True := trivial
theorem start.tw3235568786080014153 : True := trivial
theorem start.tw11305874110410891198 : True := trivial
theorem start.tw3905294059582079902 : True := trivial
theorem start.tw3011399729387044766 : True := trivial
theorem start.tw16890915994764625822 : True := trivial
theorem start.tw15663693340686852446 : True := trivial
theorem start.tw1764324846151322974 : True := trivial
theorem start.tw14888478957843993918 : True := trivial
theorem start.tw8415452475129083198 : True := trivial
theorem start.tw10528934170738203966 : True := trivial
theorem start.tw10647472035051106078 : True := trivial
theorem start.tw8576040701552300830 : True := trivial
theorem start.tw8894692601420638974 : True := trivial
theorem start.tw1843626158404938494 : True := trivial
theorem start.tw11038044595051055294 : True := trivial
theorem start.tw16207815785404557470 : True := trivial
theorem start.tw13706920512665261662 : True := trivial
theorem start.tw788172424699515486 : True := trivial
theorem start.tw13450776987443220062 : True := trivial
theorem start.tw15180505531274694686 : True := trivial
theorem start.tw17321923282622400542 : True := trivial
theorem start.tw15273156542358492190 : True := trivial
theorem start.tw4369288069169438718 : True := trivial
theorem start.tw4683285368494765054 : True := trivial
theorem start.tw5455499960496728062 : True := trivial
theorem start.tw11716417077689230302 : True := trivial
theorem start.tw3901914000396614622 : True := trivial
theorem start.tw10126002693834803070 : True := trivial
theorem start.tw2382233648484458366 : True := trivial
theorem start.tw6858956548565945182 : True := trivial
theorem start.tw10694414038097948510 : True := trivial
theorem start.tw13649060242295777566 : True := trivial
theorem start.tw17938832041467957534 : True := trivial
theorem start.tw7109591886110276862 : True := trivial
theorem start.tw13495463193946607870 : True := trivial
theorem start.tw9950878459053615358 : True := trivial
theorem start.tw5057932587048084158 : True := trivial
theorem start.tw16191772176430117534 : True := trivial
theorem start.tw681135219064476798 : True := trivial
theorem start.tw4190329072921060478 : True := trivial
theorem start.tw10754786679732799582 : True := trivial
theorem start.tw1004636974967271518 : True := trivial
theorem start.tw15989271174283765278 : True := trivial
theorem start.tw16161901505327304190 : True := trivial
theorem start.tw12962247594079968766 : True := trivial
theorem start.tw12226988963488275934 : True := trivial
theorem start.tw14727505619437072103 : True := trivial
theorem start.tw12742150645418341095 : True := trivial
theorem start.tw6798297156828095207 : True := trivial
theorem start.tw9610929601572752071 : True := trivial
theorem start.tw1317917558209186983 : True := trivial
theorem start.tw5544654491027095687 : True := trivial
theorem start.tw4199456158995944039 : True := trivial
theorem start.tw17013492381768826471 : True := trivial
theorem start.tw3349897519665446503 : True := trivial
theorem start.tw10741104544941348423 : True := trivial
theorem start.tw12867772867498437159 : True := trivial
theorem start.tw9511397389979023367 : True := trivial
theorem start.tw16082754459920274439 : True := trivial
theorem start.tw9096775885200130023 : True := trivial
theorem start.tw7119827655118169031 : True := trivial
theorem start.tw5272063430772942791 : True := trivial
theorem start.tw16494899782906964359 : True := trivial
theorem start.tw7356177788469734791 : True := trivial
theorem start.tw13826538882960300839 : True := trivial
theorem start.tw207050740746168583 : True := trivial
theorem start.tw4273014318433626375 : True := trivial
theorem start.tw10801556440387910919 : True := trivial
theorem start.tw12737490126095708423 : True := trivial
theorem start.tw14428169135354963175 : True := trivial
theorem start.tw6078272854297163975 : True := trivial
theorem start.tw14634506275325266119 : True := trivial
theorem start.tw16751091043991501927 : True := trivial
theorem start.tw18132992893399951463 : True := trivial
theorem start.tw14428891451628708935 : True := trivial
theorem start.tw3140514445558492231 : True := trivial
theorem start.tw2295329183450890311 : True := trivial
theorem start.tw10520266253617941543 : True := trivial
theorem start.tw5855248459845048807 : True := trivial
theorem start.tw6526955875000326599 : True := trivial
theorem start.tw7292582008607576519 : True := trivial
theorem start.tw14831457960551187367 : True := trivial
theorem start.tw12434290476740603783 : True := trivial
theorem start.tw15857461858826228615 : True := trivial
theorem start.tw12090252485344374663 : True := trivial
theorem start.tw379309256381125511 : True := trivial
theorem start.tw9232742425544917351 : True := trivial
theorem start.tw1367703854127749479 : True := trivial
theorem start.tw1941038483107644743 : True := trivial
theorem start.tw11901811385066840359 : True := trivial
theorem start.tw8180167120944203047 : True := trivial
theorem start.tw17882917687627298567 : True := trivial
theorem start.tw15637262619415037884 : True := trivial
theorem start.tw9640270574545681820 : True := trivial
theorem start.tw6508441473081120156 : True := trivial
theorem start.tw12304411426896866684 : True := trivial
theorem start.tw445058961495551356 : True := trivial
theorem start.tw6379330212417258876 : True := trivial
theorem start.tw6364708906836822364 : True := trivial
theorem start.tw13997025256872361788 : True := trivial
theorem start.tw8202689902212141852 : True := trivial
theorem start.tw16182156386400622364 : True := trivial
theorem start.tw5312500405584114940 : True := trivial
theorem start.tw9737635736316553404 : True := trivial
theorem start.tw9039880030294593724 : True := trivial
theorem start.tw14392320928529588412 : True := trivial
theorem start.tw1874246760449257116 : True := trivial
theorem start.tw16210669433656950396 : True := trivial
theorem start.tw15744320683125246588 : True := trivial
theorem start.tw8438795069919598204 : True := trivial
theorem start.tw2459057564034780764 : True := trivial
theorem start.tw14661859216661522492 : True := trivial
theorem start.tw2052425636292470844 : True := trivial
theorem start.tw4347126329991927836 : True := trivial
theorem start.tw16325344993812174876 : True := trivial
theorem start.tw211771835673113628 : True := trivial
theorem start.tw16974533330707387900 : True := trivial
theorem start.tw570760956928871932 : True := trivial
theorem start.tw3495299172648260092 : True := trivial
theorem start.tw10240575133762581980 : True := trivial
theorem start.tw14096925541705620956 : True := trivial
theorem start.tw10915367045996446620 : True := trivial
theorem start.tw14325475486845555580 : True := trivial
theorem start.tw16993083394231583612 : True := trivial
theorem start.tw3491327174993135484 : True := trivial
theorem start.tw6947757153525744476 : True := trivial
theorem start.tw2161134493023781628 : True := trivial
theorem start.tw8308122725104372476 : True := trivial
theorem start.tw12989399892870899420 : True := trivial
theorem start.tw357591465682896572 : True := trivial
theorem start.tw708322340531317436 : True := trivial
theorem start.tw9729125265033465532 : True := trivial
theorem start.tw12989513997551637180 : True := trivial
theorem start.tw13529679130378729596 : True := trivial
theorem start.tw198348206372694012 : True := trivial
theorem start.tw193398756126396380 : True := trivial
theorem start.tw16462413984755309532 : True := trivial
theorem start.tw13931445476797351109 : True := trivial
theorem start.tw15118977764318874245 : True := trivial
theorem start.tw327754893840896613 : True := trivial
theorem start.tw5808260330880313957 : True := trivial
theorem start.tw12914548285277063749 : True := trivial
theorem start.tw18239317711013090341 : True := trivial
theorem start.tw18386770043326790693 : True := trivial
theorem start.tw1295350979659444229 : True := trivial
theorem start.tw652605214655386085 : True := trivial
theorem start.tw4628546580448042469 : True := trivial
theorem start.tw17416659183061561797 : True := trivial
theorem start.tw4002778990228170149 : True := trivial
theorem start.tw930745821647695269 : True := trivial
theorem start.tw17407911695269566885 : True := trivial
theorem start.tw16412368114058577797 : True := trivial
theorem start.tw16354492623803034501 : True := trivial
theorem start.tw10515816323398169445 : True := trivial
theorem start.tw3199813488969107173 : True := trivial
theorem start.tw12190547232169824997 : True := trivial
theorem start.tw18434798067217872613 : True := trivial
theorem start.tw16401044127301170917 : True := trivial
theorem start.tw6751190175489295045 : True := trivial
theorem start.tw9827435944401157829 : True := trivial
theorem start.tw11932211700132383397 : True := trivial
theorem start.tw4468601252957166661 : True := trivial
theorem start.tw4512838286866807333 : True := trivial
theorem start.tw6933247316333036037 : True := trivial
theorem start.tw7307028806742400517 : True := trivial
theorem start.tw10049588695707754469 : True := trivial
theorem start.tw8695552117857007557 : True := trivial
theorem start.tw17579782861204796805 : True := trivial
theorem start.tw1301671551079379333 : True := trivial
theorem start.tw13784409686046848357 : True := trivial
theorem start.tw8048953309392851269 : True := trivial
theorem start.tw3379047381110413093 : True := trivial
theorem start.tw13025751438602932997 : True := trivial
theorem start.tw13961846996933776826 : True := trivial
theorem start.tw12094625865994313146 : True := trivial
theorem start.tw14463777471110909370 : True := trivial
theorem start.tw7328112742924674938 : True := trivial
theorem start.tw16321820422674284410 : True := trivial
theorem start.tw2942162896985989946 : True := trivial
theorem start.tw2638625765511238458 : True := trivial
theorem start.tw8121421143504015162 : True := trivial
theorem start.tw8996693129597370586 : True := trivial
theorem start.tw16803862200012793050 : True := trivial
theorem start.tw11514489674211668634 : True := trivial
theorem start.tw9673411227603612314 : True := trivial
theorem start.tw16934948194085183130 : True := trivial
theorem start.tw8425832063597574266 : True := trivial
theorem start.tw2148400959269454938 : True := trivial
theorem start.tw3442191658085848122 : True := trivial
theorem start.tw12014232314414776378 : True := trivial
theorem start.tw18404246372086496794 : True := trivial
theorem start.tw10374585008840191482 : True := trivial
theorem start.tw13022824783111385594 : True := trivial
theorem start.tw16362715181557178298 : True := trivial
theorem start.tw8054926052471288762 : True := trivial
theorem start.tw4808648913123995578 : True := trivial
theorem start.tw1300531355937563546 : True := trivial
theorem start.tw13320057543813019546 : True := trivial
theorem start.tw15069176419883881850 : True := trivial
theorem start.tw11124056360646396250 : True := trivial
theorem start.tw14267172588046582106 : True := trivial
theorem start.tw8539179588053697850 : True := trivial
theorem start.tw12455719395450207546 : True := trivial
theorem start.tw8200288211027898682 : True := trivial
theorem start.tw10155778211191485210 : True := trivial
theorem start.tw12791635539144555290 : True := trivial
theorem start.tw7263714796885762842 : True := trivial
theorem start.tw12423813442557048602 : True := trivial
theorem start.tw14210413025993028314 : True := trivial
theorem start.tw16519819624865513658 : True := trivial
theorem start.tw5984232093456364698 : True := trivial
theorem start.tw17603655269405296250 : True := trivial
theorem start.tw1291739198533332570 : True := trivial
theorem start.tw3704786394704201274 : True := trivial
theorem start.tw14629129807784941594 : True := trivial
theorem start.tw10420453099024087066 : True := trivial
theorem start.tw10160213652272429018 : True := trivial
theorem start.tw6376075893633980378 : True := trivial
theorem start.tw3359853729391802595 : True := trivial
theorem start.tw16163760656383388899 : True := trivial
theorem start.tw553374549431190723 : True := trivial
theorem start.tw735492637239808195 : True := trivial
theorem start.tw8570785026766252227 : True := trivial
theorem start.tw865711705042818147 : True := trivial
theorem start.tw13271113630737439811 : True := trivial
theorem start.tw14432904158840844323 : True := trivial
theorem start.tw14672506795194278339 : True := trivial
theorem start.tw5186649371771218371 : True := trivial
theorem start.tw5567157353171162019 : True := trivial
theorem start.tw9936553335530779555 : True := trivial
theorem start.tw7741234648080337795 : True := trivial
theorem start.tw6891307308155522947 : True := trivial
theorem start.tw5654432200891484483 : True := trivial
theorem start.tw5822840472445915459 : True := trivial
theorem start.tw8447337162058936067 : True := trivial
theorem start.tw11571064801408772867 : True := trivial
theorem start.tw13622625449245250307 : True := trivial
theorem start.tw22181675065939715 : True := trivial
theorem start.tw11850564266476241635 : True := trivial
theorem start.tw4319814080801428163 : True := trivial
theorem start.tw16837565661622378659 : True := trivial
theorem start.tw4763408838527859875 : True := trivial
theorem start.tw10015216485826286179 : True := trivial
theorem start.tw9433069131900310115 : True := trivial
theorem start.tw16780221815520647779 : True := trivial
theorem start.tw1972775755066670691 : True := trivial
theorem start.tw7830961626174652995 : True := trivial
theorem start.tw8964295534277211715 : True := trivial
theorem start.tw4489828806257988131 : True := trivial
theorem start.tw13579837510311331363 : True := trivial
theorem start.tw12002699656757373475 : True := trivial
theorem start.tw15444610007786546179 : True := trivial
theorem start.tw3954360385411859459 : True := trivial
theorem start.tw6244330980152937443 : True := trivial
theorem start.tw16556028915251926979 : True := trivial
theorem start.tw7891067470816209859 : True := trivial
theorem start.tw5041269567559365571 : True := trivial
theorem start.tw5492996758471027075 : True := trivial
theorem start.tw13377864160712430979 : True := trivial
theorem start.tw2700286583344715139 : True := trivial
theorem start.tw2304460912326898531 : True := trivial
theorem start.tw16201967697116249891 : True := trivial
theorem start.tw1992465976392982787 : True := trivial
theorem start.tw3775359695005737400 : True := trivial
theorem start.tw15768685846467158904 : True := trivial
theorem start.tw10610046442987233112 : True := trivial
theorem start.tw2223151322969474360 : True := trivial
theorem start.tw18029152572783828248 : True := trivial
theorem start.tw7105178151182680344 : True := trivial
theorem start.tw11885725635692591384 : True := trivial
theorem start.tw6467784724713839352 : True := trivial
theorem start.tw17063303434648772344 : True := trivial
theorem start.tw1717402941990240984 : True := trivial
theorem start.tw10975927269839490776 : True := trivial
theorem start.tw15818050988427414200 : True := trivial
theorem start.tw15099917398941844152 : True := trivial
theorem start.tw15311782852087522456 : True := trivial
theorem start.tw4645878612946829400 : True := trivial
theorem start.tw11565157591802996280 : True := trivial
theorem start.tw3274615435803450936 : True := trivial
theorem start.tw262235252230818360 : True := trivial
theorem start.tw16127773823470011384 : True := trivial
theorem start.tw13045394607258843096 : True := trivial
theorem start.tw17692264327574512600 : True := trivial
theorem start.tw6838205702689191864 : True := trivial
theorem start.tw3822107992451785080 : True := trivial
theorem start.tw2159475831788332376 : True := trivial
theorem start.tw15168552427582654232 : True := trivial
theorem start.tw289096303201577176 : True := trivial
theorem start.tw14023805904694171832 : True := trivial
theorem start.tw14823538501158632632 : True := trivial
theorem start.tw14387222062614375608 : True := trivial
theorem start.tw2193280187335429304 : True := trivial
theorem start.tw10811700000956179096 : True := trivial
theorem start.tw1339650338759494232 : True := trivial
theorem start.tw10733641104289535576 : True := trivial
theorem start.tw7936366320001085496 : True := trivial
theorem start.tw14723832826442080280 : True := trivial
theorem start.tw14526917563660985368 : True := trivial
theorem start.tw15764381263327812088 : True := trivial
theorem start.tw5514051767799569880 : True := trivial
theorem start.tw1354203738282976728 : True := trivial
theorem start.tw7465387453147436504 : True := trivial
theorem start.tw8658559279362351576 : True := trivial
theorem start.tw15940232036948143841 : True := trivial
theorem start.tw9324993706683667169 : True := trivial
theorem start.tw605927038352875233 : True := trivial
theorem start.tw15072050559456586433 : True := trivial
theorem start.tw3837066627711821505 : True := trivial
theorem start.tw6435095120771004065 : True := trivial
theorem start.tw11922747199722545825 : True := trivial
theorem start.tw11998936504471640193 : True := trivial
theorem start.tw11026388059717143649 : True := trivial
theorem start.tw14851388243243085889 : True := trivial
theorem start.tw897722196690412609 : True := trivial
theorem start.tw11385476651029514785 : True := trivial
theorem start.tw9058534113881114113 : True := trivial
theorem start.tw9862689849277232641 : True := trivial
theorem start.tw18411579061777391585 : True := trivial
theorem start.tw8918485223039132609 : True := trivial
theorem start.tw13058270634978600865 : True := trivial
theorem start.tw4598243265997360513 : True := trivial
theorem start.tw12646308171216359777 : True := trivial
theorem start.tw11954638635460959585 : True := trivial
theorem start.tw5225346116662817121 : True := trivial
theorem start.tw9777829744069172545 : True := trivial
theorem start.tw1281443793584933633 : True := trivial
theorem start.tw3021584937249378529 : True := trivial
theorem start.tw5425588894272727265 : True := trivial
theorem start.tw1517742161869594849 : True := trivial
theorem start.tw14880004702265982145 : True := trivial
theorem start.tw901122776808528065 : True := trivial
theorem start.tw11595540824725242049 : True := trivial
theorem start.tw11537220617527495841 : True := trivial
theorem start.tw15647344739120484513 : True := trivial
theorem start.tw14882530301089972385 : True := trivial
theorem start.tw1713671966753570977 : True := trivial
theorem start.tw11227929084633140865 : True := trivial
theorem start.tw8037882154768735809 : True := trivial
theorem start.tw13637543245603844129 : True := trivial
theorem start.tw12996407507250445345 : True := trivial
theorem start.tw4539704102577716225 : True := trivial
theorem start.tw13469599696307667393 : True := trivial
theorem start.tw6555285029487160737 : True := trivial
theorem start.tw1329570822881604481 : True := trivial
theorem start.tw16952699335227254625 : True := trivial
theorem start.tw15830390360587277153 : True := trivial
theorem start.tw219620220910961473 : True := trivial
theorem start.tw7873525686762254145 : True := trivial
theorem start.tw16407657163455445281 : True := trivial
theorem start.tw11901199964804787489 : True := trivial
theorem start.tw10972443975999530273 : True := trivial
theorem start.tw15025765284598241686 : True := trivial
theorem start.tw15818232892518424178 : True := trivial
theorem start.tw357486453476387696 : True := trivial
section
local macro_rules | `(tactic| o_head ($_ $_ $a $e)) => `(tactic| o_head (kmHook hd.heap_1 $a $e [742, 906]))
set_option Elab.async true in
theorem start : PySem.Challenge.rw_ae0022_01.Holds := by
  w_on; o_law; k_head
  case hw => w_witness2
  k_fill
  intro w s₀ s₁ mg mb G Y fa o pm cd doc dV kV ho hd hcd hD hmg hg args vals as hpre hlay hrd hwl hlo
  have KX := km_in_of Y
  have hT8 := km_tabs_of Y
  have X := (Ground.X G).1
  have V := (Ground.X G).2
  refine Ground.open G ?_
  intro T B D TE TW
  clear D
  have hT9 : TabsAt [(744, 742), (908, 906)] s₁.heap := List.forall_mem_cons.mpr ⟨⟨codeHd_of_K KX (code_rr w), hT8 742 (.head _)⟩, List.forall_mem_cons.mpr ⟨⟨codeHd_of_K KX (code_hl w), hT8 906 (.tail _ (.head _))⟩, List.forall_mem_nil _⟩⟩
  clear hmg
  wrow_args hpre hlay hrd hwl hlo
  all_goals (first | refine callC_kw (enter_call ?_) | refine enter_call ?_)
  w_top on
  w_call any ho hd hcd hD T F
  rename CellsAre _ _ _ => XC
  rename News _ _ _ _ => N0
  rename Heap.IsList _ _ _ => hL
  rename IntsAre _ _ => hI
  rename PyData.layable0 _ = true => hlay
  rename ¬ _ < _ => h63
  have h906 : @LT.lt Nat _ 906 s₁.heap.objs.size := Heap.lt_size (hT8 906 (.tail _ (.head _)))
  refine' wpAny_mono (law_whole (t1 := #[]) (t2 := #[]) (h₀ := ghostOf s₁.heap [(744, 742), (908, 906)]) (L := s₁.heap.objs.size) ?l1 ?l2 ?l3 ?l4 (ghost_list hT9 hL) hI ?l5 hlay h906 (fr_bind (ghost_fr hT9 F) ?b1 ?b2) (newsSub (ghost_news hT9 F N0) ?l6) ?l7 ?l8 ?l9 ?l10 ?l11 ?t1 ?t2 ?l12) (fun _ _ x => x) (fun _ _ x => x.elim)
  case l1 => exact ⟨_, _, _, _, _, _, _, _, _, _, _, _, by k_is⟩
  case l2 => exact ⟨⟨callerA, _, [], _, ghost_below hT9, rfl, rfl, rfl⟩, rfl, by (have hcL9 : recursionLimit = 1000 := rfl); (simp only [depth_deeper, depth_caller]); (try dsimp only); omega, by (have hcL9 := cLine_is); (simp only [units_deeper, units_caller]); omega, ghost_K hT9 KX (noT w), ghost_top hT9 T⟩
  case l3 => exact ⟨_, rfl⟩
  case l4 => exact .of_eq hg
  case l5 => omega
  case b1 => with_unfolding_all rfl
  case b2 => with_unfolding_all rfl
  case l6 => exact List.forall_mem_cons.mpr ⟨.tail _ (.tail _ (.tail _ (.tail _ (.head _)))), List.forall_mem_cons.mpr ⟨.tail _ (.tail _ (.tail _ (.head _))), List.forall_mem_cons.mpr ⟨.tail _ (.tail _ (.head _)), List.forall_mem_cons.mpr ⟨.tail _ (.head _), List.forall_mem_cons.mpr ⟨.head _, List.forall_mem_cons.mpr ⟨.tail _ (.tail _ (.tail _ (.tail _ (.tail _ (.head _))))), List.forall_mem_cons.mpr ⟨.tail _ (.tail _ (.tail _ (.tail _ (.tail _ (.tail _ (.head _)))))), List.forall_mem_nil _⟩⟩⟩⟩⟩⟩⟩
  case l7 => assumption
  case l8 => assumption
  case l9 => assumption
  case l10 => assumption
  case l11 => assumption
  case t1 => trivial
  case t2 => trivial
  intro m' t1' t2' s' F' N' tr1 tr2 G' os'
  dsimp only
  refine ⟨.inl ⟨.bool true, _, [], rfl, raisesW_false ?r1, ReadsW.bool true, ?r2, ?r3⟩, old_end rfl hT9 F' N', os', G'⟩
  · wrow_none_raised
  · wrow_post
  · exact fun _ => ⟨.nil, fun _ h => (nomatch h)⟩
end
end Mine
end
end
theorem PySem.Challenge.cw_ae0022_01_holds : PySem.Challenge.rw_ae0022_01.Holds :=
  Mine.start
