import PyProof.Rows.All
import Wide.All
import OpenK.AllK
import Wide.FinOn
import PySem.Challenge.RW_nb0141_01
open PySem PySem.W PyProof.Rows
set_option Elab.async false
namespace Mine
set_option maxRecDepth 100000 in
set_option maxHeartbeats 8000000 in
open_top hd for PySem.Challenge.rw_nb0141_01
/-- the head has turned the walk's lines for a whole top on; the texts below are written with them off -/
theorem quiet : True := by
  w_top off
  trivial
end Mine
section
open PySem PySem.W PySem.Calls PyProof.Rows
namespace Mine
section
variable {prog : Program} {w : World} {A : Around} {s : Shared} {K : Frag}
/-- a call of a plain def of the text that raises nothing -/
theorem callF {R : Result → Shared → Prop} {name qual : Str} {params : Arguments} {body : List Stmt} {scope : Scope} {dV kV doc pm cdv ct oc : Value} {an od : Option Addr} {osl : Array (Option Value)} {f : Addr} {args : Args} {binds : List (Str × Value)}
    (X : K.In s.heap) (hlim : s.heap.NoLimit)
    (ho : K.lookup f = some ⟨oc, od, .func (fnOf name qual params body scope dV kV doc pm an cdv ct), osl⟩) (hcd : codeIn K cdv qual = true) (hroom : A.depth < recursionLimit)
    (hbind : BindsTo s (fnOf name qual params body scope dV kV doc pm an cdv ct) args binds) (hloc : ∀ y ∈ binds, scope.names.lookup y.1 = some .local)
    (h : ∀ L h₁, L = s.heap.objs.size → Fr s.heap L h₁ (fun y => binds.reverse.lookup y) → News s.heap L h₁ [] →
      wpAny (model prog w) (A.deeper (envOf qual scope L f cdv)) (execs body (envOf qual scope L f cdv))
        (fun fl s' => R (.ok (.ret (match fl with | .ret v => v | _ => .none))) s') (fun _ _ => False) { s with heap := h₁, toks := s.toks + binds.length })
    (hco : scope.isCoroutine = false) (hgen : scope.isGenerator = false) (hk : scope.kind = .function)
    (hcell : ∀ x ∈ scope.names, x.2 ≠ .cell) : codeAny (model prog w) A (.call (.ref f) args) R s := by
  refine codeAny_call_def (fd := fnOf name qual params body scope dV kV doc pm an cdv ct) (body := body) (binds := binds) hroom (X _ _ ho) rfl hlim (codeRec_of X hcd) rfl hbind hcell hloc (fun h₁ hns hk₁ => ?_) hco hgen hk
  exact wpAny_mono (h s.heap.objs.size h₁ rfl ⟨hns, hk₁, Nat.le_refl _⟩ News.nil) (fun _ _ x => x) (fun _ _ x => x.elim)
end
abbrev PR : Program := PySem.Challenge.rw_nb0141_01.row.prog
end Mine
end
section
open PySem PySem.W PySem.Calls PyProof.Rows
namespace Mine
theorem fr_if {h₀ h : Heap} {L : Addr} {m : Str → Option Value} {x : Str} {v : Value} (F : Fr h₀ L h m) (hx : m x = some v) : Fr h₀ L h (fun y => if y = x then some v else m y) := by
  have e : (fun y => if y = x then some v else m y) = m := by
    funext y
    by_cases q : y = x
    · subst q; simp [hx]
    · simp [q]
  rw [e]; exact F
theorem head1 {h₀ h : Heap} {L : Addr} {p : Addr × Obj} {news : List (Addr × Obj)} (N : News h₀ L h (p :: news)) : News h₀ L h [p] := fun q hq => N q (by rw [List.mem_singleton.mp hq]; exact List.mem_cons_self)
/-- what a loop's turn must reach -/
def TurnJ (h₀ : Heap) (L I : Addr) (oI : Obj) (Jn : (Str → Option Value) → List (Addr × Obj) → Prop) (s : Shared) (Q : Flow → Shared → Prop) (f : Flow) (s₂ : Shared) : Prop :=
  match f with
  | .ret v => Q (.ret v) s₂
  | .brk => Q .next s₂
  | _ => ∃ h' tk m' news', s₂ = { s with heap := h', toks := tk } ∧ Fr h₀ L h' m' ∧ News h₀ L h' ((I, oI) :: news') ∧ (∀ p ∈ news', p.1 ≠ I) ∧ Jn m' news'
section
variable {prog : Program} {w : World} {A : Around} {E : Value → Shared → Prop} {s : Shared} {env : Env} {h₀ : Heap} {x : Str} {body : List Stmt} {Q : Flow → Shared → Prop}
theorem loopJ {I : Addr} {fp : List Addr} {n : Nat} {P : Nat → Value → Prop} {St : Nat → Heap → Prop} {m₀ : Str → Option Value} {news : List (Addr × Obj)} (J : Nat → (Str → Option Value) → List (Addr × Obj) → Prop)
    (W : Walks prog w A I fp [I] n P St) (hIf : I ∈ fp) (hfp : ∀ b ∈ fp, b ≠ I → ∃ o, h₀.get? b = some o ∨ ∀ i m nx, J i m nx → (b, o) ∈ nx) (hLf : env.locals ∉ fp) (hI₀ : h₀.get? I = none) (hnw : ∀ p ∈ news, p.1 ≠ I) (hSt : ∀ i h, St i h → ∃ o, h.get? I = some o)
    (hst : St 0 s.heap) (F : Fr h₀ env.locals s.heap m₀) (N : News h₀ env.locals s.heap news) (hj : J 0 m₀ news)
    (turn : ∀ i v m₁ news₁ h tk oI, i < n → P i v → J i m₁ news₁ → (∀ p ∈ news₁, p.1 ≠ I) → Fr h₀ env.locals h (fun y => if y = x then some v else m₁ y) → News h₀ env.locals h ((I, oI) :: news₁) →
      wpAny (model prog w) A (execs body env) (TurnJ h₀ env.locals I oI (J (i + 1)) s Q) E { s with heap := h, toks := tk })
    (done : ∀ m₁ news₁ h tk, J n m₁ news₁ → Fr h₀ env.locals h m₁ → News h₀ env.locals h news₁ → Q .next { s with heap := h, toks := tk }) :
    LoopAtV prog w A h₀ env x body Q E (.ref I) s := by
  refine ⟨I, fp, [I], n, P, St, m₀, news, J, rfl, W, hLf, ?_, ?_, hst, F, N, hj, ?_, ?_⟩
  · intro b hb
    rw [List.mem_singleton.mp hb]; exact hI₀
  · intro p hp hI
    exact hnw p hp (List.mem_singleton.mp hI)
  · rintro i v m₁ news₁ s₁ own ⟨hh', tk', rfl⟩ hin hP hJ hoff h5 _ h7 hs F₁ N₁
    obtain ⟨oI, hoI⟩ := hSt _ _ hs
    have off1 : ∀ p ∈ news₁, p.1 ≠ I := fun p hp q => hoff p hp (List.mem_singleton.mpr q)
    have NI : News h₀ env.locals hh' ((I, oI) :: news₁) := fun p hp => by
      rcases List.mem_cons.mp hp with rfl | hp
      · exact N₁ _ (List.mem_append.mpr (.inl (h7 I hIf hI₀ oI hoI)))
      · exact N₁ p (List.mem_append.mpr (.inr hp))
    refine wpAny_mono (turn i v m₁ news₁ hh' tk' oI hin hP hJ off1 F₁ NI) (fun f s₂ p => ?_) fun _ _ e => e
    have fin : (∃ h' tk m' news', s₂ = { s with heap := h', toks := tk } ∧ Fr h₀ env.locals h' m' ∧ News h₀ env.locals h' ((I, oI) :: news') ∧ (∀ p ∈ news', p.1 ≠ I) ∧ J (i + 1) m' news') →
        LoopStepU h₀ env.locals [I] own (J (i + 1)) { s with heap := hh', toks := tk' } .next s₂ := by
      rintro ⟨h', tk, m', news', e, F', N', hn, hm⟩
      refine ⟨rfl, h', tk, m', news', e, F', fun p hp => ?_, fun p hp q => hn p hp (List.mem_singleton.mp q), hm⟩
      rcases List.mem_append.mp hp with hp | hp
      · have a := N₁ p (List.mem_append.mpr (.inl hp))
        by_cases q : p.1 = I
        · have c := a.1
          rw [q] at c
          have e2 : p = (I, oI) := Prod.ext q (Option.some.inj (c.symm.trans hoI))
          rw [e2]
          exact N' _ List.mem_cons_self
        · obtain ⟨o, ho | ho⟩ := hfp p.1 (h5 p hp) q
          · rw [a.2.2] at ho; cases ho
          · have h1 := ho _ _ _ hJ
            have h2 := (N₁ _ (List.mem_append.mpr (.inr h1))).1
            have e3 : o = p.2 := Option.some.inj (h2.symm.trans a.1)
            have h4 := N' _ (List.mem_cons_of_mem _ (ho _ _ _ hm))
            rw [e3] at h4
            exact h4
      · exact N' p (List.mem_cons_of_mem _ hp)
    cases f with
    | ret v => exact .ret p
    | brk => exact .brk p
    | next => exact .next (fin p)
    | cont => exact .cont (fin p)
  · rintro h' tk m' news' F' N' _ hJ
    exact done m' news' h' tk hJ F' N'

theorem rangeJ {r : Addr} {a₀ b₀ c₀ : Int} {t₀ u₀ v₀ : Tok} {n : Nat} {m₀ : Str → Option Value} {news : List (Addr × Obj)} (J : Nat → (Str → Option Value) → List (Addr × Obj) → Prop)
    (hh : A.handled = none) (hr : IsRange s.heap r a₀ b₀ c₀ t₀ u₀ v₀) (hsmall : Builtin.Range.small a₀ b₀ c₀ = true) (hn : Builtin.Range.rangeSize a₀ b₀ c₀ = (n : Int)) (F : Fr h₀ env.locals s.heap m₀) (N : News h₀ env.locals s.heap news) (hj : J 0 m₀ news)
    (turn : ∀ i t m₁ news₁ h tk I oI, i < n → J i m₁ news₁ → (∀ p ∈ news₁, p.1 ≠ I) → Fr h₀ env.locals h (fun y => if y = x then some (.int (a₀ + i * c₀) t) else m₁ y) → News h₀ env.locals h ((I, oI) :: news₁) →
      wpAny (model prog w) A (execs body env) (TurnJ h₀ env.locals I oI (J (i + 1)) s Q) E { s with heap := h, toks := tk })
    (done : ∀ m₁ news₁ h tk, J n m₁ news₁ → Fr h₀ env.locals h m₁ → News h₀ env.locals h news₁ → Q .next { s with heap := h, toks := tk }) :
    wpAny (model prog w) A (pyIter (.ref r)) (fun it s₂ => LoopAtV prog w A h₀ env x body Q E it s₂) E s := by
  refine wpAny_pyIter_range hr hsmall ?_
  have W : Walks prog w A s.heap.objs.size [s.heap.objs.size] [s.heap.objs.size] n (fun i v => i < n ∧ ∃ t, v = .int (a₀ + i * c₀) t)
      (fun i h => IsRangeIter h s.heap.objs.size (a₀ + (i : Nat) * c₀) ((n : Int) - (i : Nat)) c₀) := (Walks.range hh _ a₀ c₀ n).bound
  refine loopJ J W (List.mem_singleton.mpr rfl) (fun b hb q => absurd (List.mem_singleton.mp hb) q) ?_ (next_is_new F) (fun p hp => Nat.ne_of_lt (Heap.lt_size (N p hp).1)) (fun i h st => ⟨_, st⟩) (by show IsRangeIter _ _ _ _ _; rw [hn]; simpa using Heap.get?_push_size _ rfl) (F.push _) (fun p hp => ⟨Heap.get?_push_of_some _ (N p hp).1, (N p hp).2⟩) hj ?_ ?_
  · intro hm
    exact absurd F.ns.lt ((List.mem_singleton.mp hm) ▸ Nat.lt_irrefl _)
  · rintro i v m₁ news₁ h tk oI hi ⟨_, t, rfl⟩ hJ off F₁ N₁
    exact turn i t m₁ news₁ h tk _ oI hi hJ off F₁ N₁
  · exact done

/-- a loop over a list of the ledger -/
theorem listJ {l : Addr} {ol : Obj} {vs : List Value} {m₀ : Str → Option Value} {news : List (Addr × Obj)} (J : Nat → (Str → Option Value) → List (Addr × Obj) → Prop)
    (hh : A.handled = none) (hol : ol.cls = .type "list" ∧ ∃ k, ol.data = .seq vs.toArray k) (hl : ∀ i m nx, J i m nx → (l, ol) ∈ nx) (F : Fr h₀ env.locals s.heap m₀) (N : News h₀ env.locals s.heap news) (hj : J 0 m₀ news)
    (turn : ∀ i v m₁ news₁ h tk I oI, vs[i]? = some v → J i m₁ news₁ → (∀ p ∈ news₁, p.1 ≠ I) → Fr h₀ env.locals h (fun y => if y = x then some v else m₁ y) → News h₀ env.locals h ((I, oI) :: news₁) →
      wpAny (model prog w) A (execs body env) (TurnJ h₀ env.locals I oI (J (i + 1)) s Q) E { s with heap := h, toks := tk })
    (done : ∀ m₁ news₁ h tk, J vs.length m₁ news₁ → Fr h₀ env.locals h m₁ → News h₀ env.locals h news₁ → Q .next { s with heap := h, toks := tk }) :
    wpAny (model prog w) A (pyIter (.ref l)) (fun it s₂ => LoopAtV prog w A h₀ env x body Q E it s₂) E s := by
  have hn := N _ (hl _ _ _ hj)
  have hls : s.heap.IsList l vs.toArray := ⟨ol, hn.1, hol⟩
  have hne : l ≠ s.heap.objs.size := Nat.ne_of_lt (Heap.lt_size hn.1)
  refine wpAny_pyIter_list hls ?_
  have W := Walks.list (prog := prog) (w := w) hh s.heap.objs.size l hne vs.toArray
  rw [List.size_toArray] at W
  refine loopJ J W List.mem_cons_self (fun b hb q => ?_) ?_ (next_is_new F) (fun p hp => Nat.ne_of_lt (Heap.lt_size (N p hp).1)) (fun i h st => by obtain ⟨o, e, _⟩ := st.1; exact ⟨o, e⟩) ⟨⟨_, Heap.get?_push_size _ rfl, rfl, rfl⟩, hls.at fun o e => Heap.get?_push_of_some _ e⟩ (F.push _) (fun p hp => ⟨Heap.get?_push_of_some _ (N p hp).1, (N p hp).2⟩) hj ?_ ?_
  · rcases List.mem_cons.mp hb with e | hb
    · exact absurd e q
    · rw [List.mem_singleton.mp hb]
      exact ⟨ol, .inr hl⟩
  · intro hm
    rcases List.mem_cons.mp hm with e | hm
    · exact absurd F.ns.lt (e ▸ Nat.lt_irrefl _)
    · exact hn.2.1 (List.mem_singleton.mp hm).symm
  · rintro i v m₁ news₁ h tk oI hi hP hJ off F₁ N₁
    exact turn i v m₁ news₁ h tk _ oI (by simpa using hP) hJ off F₁ N₁
  · exact done
end
end Mine
end
section
open PySem PySem.W PySem.Calls PyProof.Rows
namespace Mine
/-- the letters of a size -/
def apw (n : Nat) : List UInt8 := if _h : n = 0 then [] else apw (n / 16) ++ [UInt8.ofNat (65 + n % 16)]
termination_by n
decreasing_by omega
abbrev apB : Array UInt8 := #[65, 66, 67, 68, 69, 70, 71, 72, 73, 74, 75, 76, 77, 78, 79, 80]
theorem ap_pick {k : Int} (h0 : 0 ≤ k) (h1 : k < 16) : KBy.picked apB (some k) (some (k + 1)) = #[UInt8.ofNat (65 + k.toNat)] := by
  have H : ∀ j : Fin 16, KBy.picked apB (some ((j.val : Nat) : Int)) (some (((j.val : Nat) : Int) + 1)) = #[UInt8.ofNat (65 + j.val)] := by decide +kernel
  have := H ⟨k.toNat, by omega⟩
  dsimp only at this
  rw [Int.toNat_of_nonneg h0] at this
  exact this
theorem apw_pos {n : Nat} (h : n ≠ 0) : apw n = apw (n / 16) ++ [UInt8.ofNat (65 + n % 16)] := by
  rw [apw]; simp [h]
theorem apw_zero : apw 0 = [] := by rw [apw]; simp
set_option maxRecDepth 100000 in
set_option maxHeartbeats 8000000 in
theorem c_int2ap {w : World} {e : Env} {s : Shared} {R : Result → Shared → Prop} {loose : List Str} {mean : ExcName → Option Value} {mg mb : Str → Option Value}
   (T : Top hd.view_39 loose mean mg mb s.heap) (X : (hd.heap_39 w.params).In s.heap) {x : Int} {u : Tok} (h1 : -4096 < x) (h2 : x < 4096)
   (hR : ∀ h' tk t, (∀ b o, s.heap.get? b = some o → h'.get? b = some o) → R (.ok (.ret (.bytes (apw x.natAbs).toArray t))) { s with heap := h', toks := tk }) :
   codeAny (model PySem.Challenge.rw_nb0141_01.row.prog w) (callerA.deeper e) (.call (.ref 63) ⟨[.int x u], []⟩) R s := by
  revert X; k_fill; intro X
  refine' callF (binds := [(Str.ofString "num", .int x u)]) X T.nolimit ?ho ?hcd ?hroom ?hbind ?hloc ?h ?c1 ?c2 ?c3 ?c4
  case ho => k_is
  case hcd => k_is
  case hroom => k_room
  case hbind => exact BindsTo.of_eq rfl
  case hloc => exact locs rfl
  case c1 => exact rfl
  case c2 => exact rfl
  case c3 => exact rfl
  case c4 => decide
  case h =>
    intro L h₁ hL F N
    iterate 27 (walk1)
    rename Fr _ _ _ _ => F; rename News _ _ _ _ => N
    refine While_inv2 (fun n m _ => ∃ (b : Array UInt8) (t1 t2 t3 : Tok), m (Str.ofString "num") = some (.int (n : Int) t1) ∧ m (Str.ofString "AP") = some (.bytes #[65, 66, 67, 68, 69, 70, 71, 72, 73, 74, 75, 76, 77, 78, 79, 80] t2) ∧ m (Str.ofString "val") = some (.bytes b t3) ∧ apw n ++ b.toList = apw x.natAbs ∧ b.size ≤ 3 ∧ n * 16 ^ b.size < 4096) (n₀ := x.natAbs) F N ?i0 ?turn
    case i0 =>
      have hn : (if x < 0 then -x else x) = (x.natAbs : Int) := by split <;> omega
      rw [hn]
      exact ⟨#[], _, _, _, rfl, rfl, rfl, by simp, by simp, by simp; omega⟩
    case turn =>
      clear F N
      rintro n m₁ _ h₁ tk₁ F₁ _ ⟨b, t1, t2, t3, g1, g2, g3, g4, g5, g6⟩
      have F := fr_if (x := Str.ofString "num") (fr_if (x := Str.ofString "AP") (fr_if F₁ g3) (v := .bytes #[65, 66, 67, 68, 69, 70, 71, 72, 73, 74, 75, 76, 77, 78, 79, 80] t2) (by exact g2)) (v := .int n t1) (by exact g1)
      clear F₁
      have N : News s.heap L h₁ [] := News.nil
      iterate 38 (walk1)
      · dsimp only
        rename Fr _ _ _ _ => F; rename News _ _ _ _ => N
        refine KBc.slice_K (s := ⟨_, _, _, _, _⟩) F N rfl (by constructor) (by constructor) (by decide) ?_
        intro h' t' k F' N' hk
        clear F N
        have e1 : (n : Int).fmod 16 = ((n % 16 : Nat) : Int) := by rw [Int.fmod_eq_emod_of_nonneg _ (by decide)]; omega
        have e2 : (n : Int).fdiv 16 = ((n / 16 : Nat) : Int) := by rw [Int.fdiv_eq_ediv_of_nonneg _ (by decide)]; omega
        rw [e1, e2] at F'
        rw [e1] at hk ⊢
        rw [ap_pick (by omega) (by omega)]
        walk1
        refine KBy.add_bytes (by simp; omega) ?_
        intro t'' k''
        iterate 2 walk1
        refine wpAny_execs_nil ?_
        rename Fr _ _ _ _ => F; rename News _ _ _ _ => N
        have hn0 : n ≠ 0 := by omega
        refine ⟨_, _, _, _, n / 16, rfl, F, N, by omega, _, _, _, _, rfl, rfl, rfl, ?_, ?_, ?_⟩
        · rw [← g4, apw_pos hn0, Int.toNat_natCast, Array.toList_append, List.append_assoc]
        · have : b.size ≤ 2 := by
            rcases Nat.lt_or_ge b.size 3 with q | q
            · omega
            · have : b.size = 3 := by omega
              rw [this] at g6; omega
          simp; omega
        · have : (#[UInt8.ofNat (65 + ((n % 16 : Nat) : Int).toNat)] ++ b).size = b.size + 1 := by simp; omega
          rw [this, Nat.pow_succ, Nat.mul_comm (16 ^ b.size) 16, ← Nat.mul_assoc]
          exact Nat.lt_of_le_of_lt (Nat.mul_le_mul_right _ (Nat.div_mul_le_self n 16)) g6
      · dsimp only
        iterate 3 walk1
        have hn0 : n = 0 := by omega
        subst hn0
        rw [apw_zero, List.nil_append] at g4
        have e : b = (apw x.natAbs).toArray := by rw [← g4]
        rw [e]
        exact hR _ _ _ F.keep
end Mine
end
section
open PySem PySem.W PySem.Calls PyProof.Rows
namespace Mine
def rd (l : List UInt8) : Nat := l.foldl (fun a c => a * 16 + (c.toNat - 65)) 0
theorem rd_snoc (l : List UInt8) (c : UInt8) : rd (l ++ [c]) = rd l * 16 + (c.toNat - 65) := by simp [rd]
theorem rd_apw (n : Nat) : rd (apw n) = n := by
  induction n using Nat.strongRecOn with
  | ind n ih =>
    by_cases h : n = 0
    · subst h; rw [apw_zero]; rfl
    · rw [apw_pos h, rd_snoc, ih (n / 16) (by omega)]
      have : (UInt8.ofNat (65 + n % 16)).toNat = 65 + n % 16 := by
        rw [UInt8.toNat_ofNat']; omega
      rw [this]; omega
theorem apw_ok (n : Nat) : ∀ c ∈ apw n, 65 ≤ c.toNat ∧ c.toNat ≤ 80 := by
  induction n using Nat.strongRecOn with
  | ind n ih =>
    by_cases h : n = 0
    · subst h; rw [apw_zero]; simp
    · rw [apw_pos h]
      intro c hc
      rcases List.mem_append.mp hc with hc | hc
      · exact ih (n / 16) (by omega) c hc
      · rw [List.mem_singleton.mp hc, UInt8.toNat_ofNat']; omega
theorem apw_len (n k : Nat) (h : n < 16 ^ k) : (apw n).length ≤ k := by
  induction k generalizing n with
  | zero => have : n = 0 := by simpa using h
            subst this; rw [apw_zero]; simp
  | succ k ih =>
    by_cases h0 : n = 0
    · subst h0; rw [apw_zero]; simp
    · rw [apw_pos h0, List.length_append, List.length_singleton]
      have := ih (n / 16) (by rw [Nat.pow_succ] at h; omega)
      omega
theorem apw_nil {n : Nat} (h : apw n = []) : n = 0 := by
  by_cases h0 : n = 0
  · exact h0
  · rw [apw_pos h0] at h; simp at h
theorem apw_head (n : Nat) : (apw n).head? ≠ some 65 := by
  induction n using Nat.strongRecOn with
  | ind n ih =>
    by_cases h : n = 0
    · subst h; rw [apw_zero]; simp
    · rw [apw_pos h]
      by_cases h2 : n / 16 = 0
      · rw [h2, apw_zero]
        simp only [List.nil_append, List.head?_cons]
        intro e
        have e2 := congrArg UInt8.toNat (Option.some.inj e)
        rw [UInt8.toNat_ofNat'] at e2
        have : (65 : UInt8).toNat = 65 := rfl
        omega
      · have : apw (n / 16) ≠ [] := fun q => h2 (apw_nil q)
        rw [List.head?_append, (by cases hq : apw (n / 16) with | nil => exact absurd hq this | cons a r => rfl : ((apw (n / 16)).head?.or [UInt8.ofNat (65 + n % 16)].head?) = (apw (n / 16)).head?)]
        exact ih (n / 16) (by omega)
set_option maxRecDepth 100000 in
set_option maxHeartbeats 8000000 in
theorem c_read {w : World} {e : Env} {s : Shared} {R : Result → Shared → Prop} {loose : List Str} {mean : ExcName → Option Value} {mg mb : Str → Option Value}
   (T : Top hd.view_39 loose mean mg mb s.heap) (X : (hd.heap_39 w.params).In s.heap) {l : List UInt8} {u : Tok} (hb : l.length ≤ 3) (hok : ∀ c ∈ l, 65 ≤ c.toNat ∧ c.toNat ≤ 80) (hh : l.head? ≠ some 65)
   (hR : ∀ h' tk t, (∀ b o, s.heap.get? b = some o → h'.get? b = some o) → R (.ok (.ret (.int (rd l) t))) { s with heap := h', toks := tk }) :
   codeAny (model PySem.Challenge.rw_nb0141_01.row.prog w) (callerA.deeper e) (.call (.ref 70) ⟨[.bytes l.toArray u], []⟩) R s := by
  revert X; k_fill; intro X
  refine' callF (binds := [(Str.ofString "word", .bytes l.toArray u)]) X T.nolimit ?ho ?hcd ?hroom ?hbind ?hloc ?h ?c1 ?c2 ?c3 ?c4
  case ho => k_is
  case hcd => k_is
  case hroom => k_room
  case hbind => exact BindsTo.of_eq rfl
  case hloc => exact locs rfl
  case c1 => exact rfl
  case c2 => exact rfl
  case c3 => exact rfl
  case c4 => decide
  case h =>
    intro L h₁ hL F N
    have hsz : l.toArray.size = l.length := List.size_toArray ..
    iterate 19 walk1
    rename Fr _ _ _ _ => F; rename News _ _ _ _ => N
    rename IsRange _ _ _ _ _ _ _ _ => HR
    refine rangeJ (n := l.length) (fun i m _ => m (Str.ofString "word") = some (.bytes l.toArray u) ∧ ∃ t, m (Str.ofString "size") = some (.int (rd (l.take i)) t)) rfl HR ?sm ?rs F N ⟨rfl, _, rfl⟩ ?turn ?done
    case sm => exact small_one (by decide) (by decide) (by omega) (by omega)
    case rs => rw [rangeSize_nat]; omega
    case turn =>
      clear F N HR
      rintro i t m₁ _ h tk I oI hi ⟨g1, t2, g2⟩ _ F₁ N₁
      have F : Fr s.heap L h _ := fr_if (x := Str.ofString "place") (fr_if (x := Str.ofString "word") (fr_if (x := Str.ofString "size") F₁ (v := .int (rd (l.take i)) t2) (by exact g2)) (v := .bytes l.toArray u) (by exact g1)) (v := .int (0 + i * 1) t) rfl
      have N : News s.heap L h [(I, oI)] := head1 N₁
      clear F₁ N₁
      rw [show (0 + (i : Int) * 1) = (i : Int) by omega] at F
      iterate 6 walk1
      refine KBy.item_N (by omega) (by omega) (by omega) ?_
      have hc : l[i]? = some (l.getD (i : Int).toNat 0) := by
        rw [Int.toNat_natCast, List.getD_eq_getElem?_getD, List.getElem?_eq_getElem hi]; rfl
      have hco := hok _ (List.mem_of_getElem? hc)
      have hch : ¬ (i = 0 ∧ (l.getD (i : Int).toNat 0).toNat = 65) := by
        rintro ⟨rfl, q⟩
        apply hh
        rw [List.head?_eq_getElem?, hc]
        exact congrArg some (UInt8.toNat.inj q)
      have hrd : rd (l.take (i + 1)) = rd (l.take i) * 16 + ((l.getD (i : Int).toNat 0).toNat - 65) := by
        rw [List.take_add_one, hc]; exact rd_snoc _ _
      generalize (l.getD (i : Int).toNat 0).toNat = c at hco hch hrd ⊢
      clear hc
      iterate 29 walk1
      · exfalso; omega
      iterate 14 walk1
      refine wpAny_execs_nil ?_
      rename Fr _ _ _ _ => F; rename News _ _ _ _ => N
      have e4 : (rd (l.take i) : Int) * 16 + ((c : Int) - 65) = ((rd (l.take (i + 1)) : Nat) : Int) := by rw [hrd]; omega
      rw [e4] at F
      exact ⟨_, _, _, [], rfl, F, N, by simp, rfl, _, rfl⟩
    case done =>
      clear F N HR
      rintro m₁ _ h tk ⟨g1, t2, g2⟩ F₁ _
      have F : Fr s.heap L h _ := fr_if (x := Str.ofString "size") F₁ (v := .int (rd (l.take l.length)) t2) (by exact g2)
      have N : News s.heap L h [] := News.nil
      rw [List.take_length] at F
      iterate 3 walk1
      exact hR _ _ _ F.keep
end Mine
end
section
open PySem PySem.W PySem.Calls PyProof.Rows
namespace Mine
theorem sorted_unique {a b : List Int} (hp : a.Perm b) (ha : a.Pairwise (· ≤ ·)) (hb : b.Pairwise (· ≤ ·)) : a = b := by
  exact hp.eq_of_pairwise (fun _ _ _ _ h1 h2 => Int.le_antisymm h1 h2) ha hb
def quo (c n : Int) : UInt64 := Float64.ofFrac (decide (c < 0) != decide (n < 0)) c.natAbs n.natAbs
theorem getD_small {us : List Int} (hsm : ∀ x ∈ us, -4096 < x ∧ x < 4096) (i : Nat) : -4096 < us.getD i 0 ∧ us.getD i 0 < 4096 := by
  rw [List.getD_eq_getElem?_getD]
  cases h : us[i]? with
  | none => simp
  | some v => exact hsm v (List.mem_of_getElem? h)
theorem small_fits {c : Int} (h : c.natAbs < 1000000) : c.natAbs < 2 ^ 1023 := Nat.lt_trans h (by decide +kernel)
theorem fdiv2 (n : Nat) : (n : Int).fdiv 2 = ((n / 2 : Nat) : Int) := by rw [Int.fdiv_eq_ediv_of_nonneg _ (by decide)]; omega
theorem fmod2 (n : Nat) : (n : Int).fmod 2 = ((n % 2 : Nat) : Int) := by rw [Int.fmod_eq_emod_of_nonneg _ (by decide)]; omega
set_option maxRecDepth 100000 in
set_option maxHeartbeats 8000000 in
theorem c_low {w : World} {e : Env} {s : Shared} {R : Result → Shared → Prop} {loose : List Str} {mean : ExcName → Option Value} {mg mb : Str → Option Value}
   (T : Top hd.view_39 loose mean mg mb s.heap) (X : (hd.heap_39 w.params).In s.heap) {a : Addr} {vs : List Value} {ns zs : List Int} (hl : s.heap.IsList a vs.toArray) (hi : IntsAre vs ns) (h4 : 4 ≤ ns.length) (h11 : ns.length ≤ 11)
   (hsm : ∀ x ∈ ns, -4096 < x ∧ x < 4096) (hp : zs.Perm ns) (hs : zs.Pairwise (· ≤ ·))
   (hR : ∀ h' tk t, (∀ b o, s.heap.get? b = some o → h'.get? b = some o) → R (.ok (.ret (.int (zs.getD ((zs.length - 1) / 2) 0) t))) { s with heap := h', toks := tk }) :
   codeAny (model PySem.Challenge.rw_nb0141_01.row.prog w) (callerA.deeper e) (.call (.ref 41) ⟨[.ref a], []⟩) R s := by
  revert X; k_fill; intro X
  refine' callF (binds := [(Str.ofString "data", .ref a)]) X T.nolimit ?ho ?hcd ?hroom ?hbind ?hloc ?h ?c1 ?c2 ?c3 ?c4
  case ho => k_is
  case hcd => k_is
  case hroom => k_room
  case hbind => exact BindsTo.of_eq rfl
  case hloc => exact locs rfl
  case c1 => exact rfl
  case c2 => exact rfl
  case c3 => exact rfl
  case c4 => decide
  case h =>
    intro L h₁ hL F N
    iterate 31 walk1
    · exfalso; omega
    rename List.Perm _ _ => P1; rename List.Pairwise _ _ => O1
    obtain rfl := sorted_unique (P1.trans hp.symm) O1 hs
    iterate 13 walk1
    · iterate 10 walk1
      rename Fr _ _ _ _ => F
      rename Int.fmod _ _ = _ => q
      rw [fmod2] at q
      rename List Int => us
      have e5 : ((us.length : Int).fdiv 2).toNat = (us.length - 1) / 2 := by rw [fdiv2, Int.toNat_natCast]; omega
      rw [e5]
      exact hR _ _ _ F.keep
    · rename Int.fmod _ _ ≠ _ => q
      rw [fmod2] at q
      rename List Int => us
      have hb2 : 0 ≤ (us.length : Int).fdiv 2 - 1 ∧ (us.length : Int).fdiv 2 - 1 < us.length := by rw [fdiv2]; omega
      iterate 12 walk1
      rename Fr _ _ _ _ => F
      have e5 : ((us.length : Int).fdiv 2 - 1).toNat = (us.length - 1) / 2 := by rw [fdiv2]; omega
      rw [e5]
      exact hR _ _ _ F.keep

set_option maxRecDepth 100000 in
set_option maxHeartbeats 8000000 in
theorem c_high {w : World} {e : Env} {s : Shared} {R : Result → Shared → Prop} {loose : List Str} {mean : ExcName → Option Value} {mg mb : Str → Option Value}
   (T : Top hd.view_39 loose mean mg mb s.heap) (X : (hd.heap_39 w.params).In s.heap) {a : Addr} {vs : List Value} {ns zs : List Int} (hl : s.heap.IsList a vs.toArray) (hi : IntsAre vs ns) (h4 : 4 ≤ ns.length) (h11 : ns.length ≤ 11)
   (hsm : ∀ x ∈ ns, -4096 < x ∧ x < 4096) (hp : zs.Perm ns) (hs : zs.Pairwise (· ≤ ·))
   (hR : ∀ h' tk t, (∀ b o, s.heap.get? b = some o → h'.get? b = some o) → R (.ok (.ret (.int (zs.getD (zs.length / 2) 0) t))) { s with heap := h', toks := tk }) :
   codeAny (model PySem.Challenge.rw_nb0141_01.row.prog w) (callerA.deeper e) (.call (.ref 48) ⟨[.ref a], []⟩) R s := by
  revert X; k_fill; intro X
  refine' callF (binds := [(Str.ofString "data", .ref a)]) X T.nolimit ?ho ?hcd ?hroom ?hbind ?hloc ?h ?c1 ?c2 ?c3 ?c4
  case ho => k_is
  case hcd => k_is
  case hroom => k_room
  case hbind => exact BindsTo.of_eq rfl
  case hloc => exact locs rfl
  case c1 => exact rfl
  case c2 => exact rfl
  case c3 => exact rfl
  case c4 => decide
  case h =>
    intro L h₁ hL F N
    iterate 31 walk1
    · exfalso; omega
    rename List.Perm _ _ => P1; rename List.Pairwise _ _ => O1
    obtain rfl := sorted_unique (P1.trans hp.symm) O1 hs
    iterate 11 walk1
    rename Fr _ _ _ _ => F
    rename List Int => us
    have e5 : ((us.length : Int).fdiv 2).toNat = us.length / 2 := by rw [fdiv2, Int.toNat_natCast]
    rw [e5]
    exact hR _ _ _ F.keep

set_option maxRecDepth 100000 in
set_option maxHeartbeats 8000000 in
theorem c_med {w : World} {e : Env} {s : Shared} {R : Result → Shared → Prop} {loose : List Str} {mean : ExcName → Option Value} {mg mb : Str → Option Value}
   (T : Top hd.view_39 loose mean mg mb s.heap) (X : (hd.heap_39 w.params).In s.heap) {a : Addr} {vs : List Value} {ns zs : List Int} (hl : s.heap.IsList a vs.toArray) (hi : IntsAre vs ns) (h4 : 4 ≤ ns.length) (h11 : ns.length ≤ 11)
   (hsm : ∀ x ∈ ns, -4096 < x ∧ x < 4096) (hp : zs.Perm ns) (hs : zs.Pairwise (· ≤ ·))
   (hR2 : ∀ h' tk t, zs.length % 2 = 0 → (∀ b o, s.heap.get? b = some o → h'.get? b = some o) → R (.ok (.ret (.float (quo (zs.getD (zs.length / 2 - 1) 0 + zs.getD (zs.length / 2) 0) 2) t))) { s with heap := h', toks := tk })
   (hR : ∀ h' tk t, zs.length % 2 = 1 → (∀ b o, s.heap.get? b = some o → h'.get? b = some o) → R (.ok (.ret (.int (zs.getD (zs.length / 2) 0) t))) { s with heap := h', toks := tk }) :
   codeAny (model PySem.Challenge.rw_nb0141_01.row.prog w) (callerA.deeper e) (.call (.ref 34) ⟨[.ref a], []⟩) R s := by
  revert X; k_fill; intro X
  refine' callF (binds := [(Str.ofString "data", .ref a)]) X T.nolimit ?ho ?hcd ?hroom ?hbind ?hloc ?h ?c1 ?c2 ?c3 ?c4
  case ho => k_is
  case hcd => k_is
  case hroom => k_room
  case hbind => exact BindsTo.of_eq rfl
  case hloc => exact locs rfl
  case c1 => exact rfl
  case c2 => exact rfl
  case c3 => exact rfl
  case c4 => decide
  case h =>
    intro L h₁ hL F N
    iterate 31 walk1
    · exfalso; omega
    rename List.Perm _ _ => P1; rename List.Pairwise _ _ => O1
    obtain rfl := sorted_unique (P1.trans hp.symm) O1 hs
    iterate 13 walk1
    · iterate 10 walk1
      rename Fr _ _ _ _ => F
      rename Int.fmod _ _ = _ => q
      rw [fmod2] at q
      rename List Int => us
      have e5 : ((us.length : Int).fdiv 2).toNat = us.length / 2 := by rw [fdiv2, Int.toNat_natCast]
      rw [e5]
      exact hR _ _ _ (by omega) F.keep
    · rename Int.fmod _ _ ≠ _ => q
      rw [fmod2] at q
      rename List Int => us
      have hb2 : 0 ≤ (us.length : Int).fdiv 2 - 1 ∧ (us.length : Int).fdiv 2 - 1 < us.length := by rw [fdiv2]; omega
      iterate 24 walk1
      rename Fr _ _ _ _ => F
      have e5 : ((us.length : Int).fdiv 2 - 1).toNat = us.length / 2 - 1 := by rw [fdiv2]; omega
      have e6 : ((us.length : Int).fdiv 2).toNat = us.length / 2 := by rw [fdiv2, Int.toNat_natCast]
      rw [e5, e6]
      have b1 := getD_small (hsm := fun x hx => hsm x (P1.mem_iff.mp hx)) (us.length / 2 - 1)
      have b2 := getD_small (hsm := fun x hx => hsm x (P1.mem_iff.mp hx)) (us.length / 2)
      refine Flt.div_ii_fits rfl (small_fits (by omega)) (fun q => absurd q (by decide)) (fun _ _ => ?_)
      exact hR2 _ _ _ (by omega) F.keep

end Mine
end
section
open PySem PySem.W PySem.Calls PyProof.Rows
namespace Mine
open PySem.Float64 in
theorem exact_right {r : UInt64} {neg : Bool} {W D t₀ : Nat} (h : Right r neg W D) (hD : 0 < D) (hW : W = D * V t₀) (ht : t₀ < infMag) : r = pack neg t₀ := by
  obtain ⟨t, rfl, hle, hinf, hnear⟩ := h
  have hlt : t < infMag := by
    rcases Nat.lt_or_eq_of_le hle with q | q
    · exact q
    · exfalso
      have h1 := hinf.mp q
      have hA : V (infMag - 1) = (2 ^ 53 - 1) * 2 ^ 2045 := by
        have e : infMag - 1 = 2045 * 2 ^ 52 + (2 ^ 53 - 1) := by unfold infMag; omega
        rw [e]
        exact V_at (k := 2045) (q := 2 ^ 53 - 1) (by omega) (.inl (by omega))
      have h2 : V t₀ ≤ (2 ^ 53 - 1) * 2 ^ 2045 := hA ▸ V_mono (by omega)
      rw [hW] at h1
      have h3 : D * ((2 ^ 54 - 1) * 2 ^ 2045) ≤ D * (2 * V t₀) := by
        rw [show D * (2 * V t₀) = 2 * (D * V t₀) by ac_rfl]; exact h1
      have h4 := Nat.le_of_mul_le_mul_left h3 hD
      have h5 : 0 < 2 ^ 2045 := Nat.two_pow_pos _
      generalize (2 : Nat) ^ 2045 = K at *
      omega
  have h1 := (hnear hlt t₀).1
  have h2 : dist W (D * V t₀) = 0 := by rw [hW]; simp [dist]
  rw [h2] at h1
  have h3 : W = D * V t := by unfold dist at h1; omega
  have h4 : V t = V t₀ := Nat.eq_of_mul_eq_mul_left hD (by rw [← h3, hW])
  have h5 : t = t₀ := by
    rcases Nat.lt_trichotomy t t₀ with q | q | q
    · have := V_lt q; omega
    · exact q
    · have := V_lt q; omega
  rw [h5]
open PySem.Float64 in
theorem reprs {k j : Nat} (hk : k < 2 ^ 53) (h1 : 1000 ≤ j) (h2 : j ≤ 1074) : ∃ t₀, t₀ < infMag ∧ V t₀ = k * 2 ^ j := by
  by_cases h0 : k = 0
  · subst h0
    exact ⟨0, by decide, by rw [V_zero]; simp⟩
  · have hl : k.log2 ≤ 52 := by
      have := (Nat.log2_lt h0).mpr hk
      omega
    have hlo := Nat.log2_self_le h0
    have hup := Nat.lt_log2_self (n := k)
    generalize k.log2 = l at *
    refine ⟨(j - 52 + l) * 2 ^ 52 + k * 2 ^ (52 - l), ?_, ?_⟩
    · have e : k * 2 ^ (52 - l) < 2 ^ 53 := by
        have : k * 2 ^ (52 - l) < 2 ^ (l + 1) * 2 ^ (52 - l) := Nat.mul_lt_mul_of_pos_right hup (Nat.two_pow_pos _)
        rw [← Nat.pow_add, show l + 1 + (52 - l) = 53 by omega] at this
        exact this
      unfold infMag
      have : (j - 52 + l) * 2 ^ 52 ≤ 1074 * 2 ^ 52 := Nat.mul_le_mul_right _ (by omega)
      omega
    · have e : k * 2 ^ (52 - l) < 2 ^ 53 := by
        have : k * 2 ^ (52 - l) < 2 ^ (l + 1) * 2 ^ (52 - l) := Nat.mul_lt_mul_of_pos_right hup (Nat.two_pow_pos _)
        rw [← Nat.pow_add, show l + 1 + (52 - l) = 53 by omega] at this
        exact this
      have e2 : 2 ^ 52 ≤ k * 2 ^ (52 - l) := by
        have : 2 ^ l * 2 ^ (52 - l) ≤ k * 2 ^ (52 - l) := Nat.mul_le_mul_right _ hlo
        rw [← Nat.pow_add, show l + (52 - l) = 52 by omega] at this
        exact this
      rw [V_at (by omega) (.inl e2), Nat.mul_assoc, ← Nat.pow_add, show 52 - l + (j - 52 + l) = j by omega]
open PySem.Float64 in
/-- an int's float, in its bits -/
theorem fl_bits {x : Int} (hx : x.natAbs < 2 ^ 53) : ∃ t₀, t₀ < infMag ∧ V t₀ = x.natAbs * 2 ^ 1074 ∧ ofInt x = pack (decide (x < 0)) t₀ := by
  obtain ⟨t₀, h1, h2⟩ := reprs (j := 1074) hx (by decide) (by decide)
  exact ⟨t₀, h1, h2, exact_right (ofInt_right x) (by decide) (by rw [h2, Nat.one_mul]) h1⟩
open PySem.Float64 in
theorem quo_int {x n : Int} (hx : x.natAbs < 2 ^ 53) (hn : 0 < n) : quo (x * n) n = ofInt x := by
  obtain ⟨t₀, h1, h2, h3⟩ := fl_bits hx
  rw [h3]
  have hs : (decide (x * n < 0) != decide (n < 0)) = decide (x < 0) := by
    have a : decide (n < 0) = false := decide_eq_false (by omega)
    have b : (x * n < 0) ↔ x < 0 := by
      constructor
      · intro q
        rcases Int.lt_or_le x 0 with r | r
        · exact r
        · exact absurd (Int.mul_nonneg r (Int.le_of_lt hn)) (by omega)
      · exact fun q => Int.mul_neg_of_neg_of_pos q hn
    have c : decide (x * n < 0) = decide (x < 0) := decide_eq_decide.mpr b
    rw [a, c]
    simp
  unfold quo
  rw [hs]
  refine exact_right (W := x.natAbs * 2 ^ 1074) (D := 1) (ofFrac_right (by omega) ?_ (by decide)) (by decide) (by rw [h2, Nat.one_mul]) h1
  rw [Int.natAbs_mul, Nat.mul_one]
  generalize (2 : Nat) ^ 1074 = K
  ac_rfl
open PySem.Float64 in
theorem fl_val {x : Int} (hx : x.natAbs < 2 ^ 53) : ∃ m e, decode (ofInt x) = .fin (decide (x < 0)) m e ∧ m * 2 ^ (e + 1074).toNat = x.natAbs * 2 ^ 1074 ∧ val (ofInt x) = x * 2 ^ 1074 := by
  obtain ⟨t₀, h1, h2, h3⟩ := fl_bits hx
  obtain ⟨m, e, h4, h5⟩ := decode_pack (decide (x < 0)) h1
  rw [h3]
  refine ⟨m, e, h4, by rw [h5, h2], ?_⟩
  rw [val_pack _ h1, h2]
  unfold sgn
  by_cases q : x < 0
  · simp only [q, decide_true, if_true]
    rw [Int.natCast_mul, ← Int.neg_mul, show (-(x.natAbs : Int)) = x by omega]
    simp
  · simp only [q, decide_false, Bool.false_eq_true, if_false]
    rw [Int.natCast_mul, show ((x.natAbs : Int)) = x by omega]
    simp
open PySem.Float64 in
theorem fl_cmp {x : Int} (hx : x.natAbs < 2 ^ 53) : cmpInt (ofInt x) x = some .eq := by
  obtain ⟨m, e, h1, _, h3⟩ := fl_val hx
  rw [cmpInt_right h1, h3]
  simp
open PySem.Float64 in
theorem fl_cmpf {x : Int} (hx : x.natAbs < 2 ^ 53) : cmp (ofInt x) (ofInt x) = some .eq := by
  obtain ⟨m, e, h1, _, h3⟩ := fl_val hx
  rw [cmp_right h1 h1]
  simp
open PySem.Float64 in
theorem fl_abs {x : Int} (hx : x.natAbs < 2 ^ 53) : Float64.abs (ofInt x) = ofInt (x.natAbs : Int) := by
  obtain ⟨t₀, h1, h2, h3⟩ := fl_bits hx
  obtain ⟨t₁, g1, g2, g3⟩ := fl_bits (x := (x.natAbs : Int)) (by simpa using hx)
  have e : t₁ = t₀ := by
    have : V t₁ = V t₀ := by rw [g2, h2]; simp
    rcases Nat.lt_trichotomy t₁ t₀ with q | q | q
    · have := V_lt q; omega
    · exact q
    · have := V_lt q; omega
  have hn : Float64.isNaN (ofInt x) = false := by
    obtain ⟨m, e, h4, _, _⟩ := fl_val hx
    unfold Float64.isNaN; rw [h4]
  unfold Float64.abs
  rw [hn, if_neg Bool.false_ne_true, h3, pack_toNat _ (by unfold infMag at h1; omega), g3, e]
  have : decide (((x.natAbs : Nat) : Int) < 0) = false := decide_eq_false (by omega)
  rw [this]
  congr 1
  unfold infMag at h1
  cases decide (x < 0) <;> simp <;> omega
open PySem.Float64 in
theorem fl_trunc {k : Nat} (hx : k < 2 ^ 53) : ∃ m e, decode (ofInt (k : Int)) = .fin false m e ∧ truncOf false m e = (k : Int) := by
  obtain ⟨m, e, h1, h2, _⟩ := fl_val (x := (k : Int)) (by simpa using hx)
  have : decide (((k : Nat) : Int) < 0) = false := decide_eq_false (by omega)
  rw [this] at h1
  refine ⟨m, e, h1, ?_⟩
  have he := decode_ge h1
  unfold truncOf floorOf
  simp only [Bool.false_eq_true, if_false, sgn]
  have hK : 0 < 2 ^ 1074 := Nat.two_pow_pos _
  rw [show (k : Int).natAbs = k by omega] at h2
  split
  · rename_i q
    have e1 : (e + 1074).toNat = e.toNat + 1074 := by omega
    rw [e1, Nat.pow_add, ← Nat.mul_assoc] at h2
    have h3 := Nat.eq_of_mul_eq_mul_right hK h2
    rw [← h3]; simp
  · rename_i q
    have e1 : 1074 = (e + 1074).toNat + (-e).toNat := by omega
    have h3 : m = k * 2 ^ (-e).toNat := by
      have h4 : m * 2 ^ (e + 1074).toNat = k * 2 ^ (-e).toNat * 2 ^ (e + 1074).toNat := by
        rw [h2]
        conv => lhs; rw [e1, Nat.pow_add]
        ac_rfl
      exact Nat.eq_of_mul_eq_mul_right (Nat.two_pow_pos _) h4
    rw [h3]
    have h5 : 0 < 2 ^ (-e).toNat := Nat.two_pow_pos _
    have h6 : (2 ^ (-e).toNat : Int) = ((2 ^ (-e).toNat : Nat) : Int) := by simp
    rw [h6, Int.natCast_mul]
    generalize (2 : Nat) ^ (-e).toNat = P at *
    rw [Int.fdiv_eq_ediv_of_nonneg _ (by omega)]
    exact Int.mul_ediv_cancel _ (by omega)
open PySem.Float64 in
theorem half_twice {c : Int} (hc : c.natAbs < 2 ^ 52) : mul (ofInt 2) (quo c 2) = ofInt c := by
  obtain ⟨t₀, h1, h2⟩ := reprs (k := c.natAbs) (j := 1073) (by omega) (by decide) (by decide)
  have hq : quo c 2 = pack (decide (c < 0)) t₀ := by
    unfold quo
    have hs : (decide (c < 0) != decide ((2 : Int) < 0)) = decide (c < 0) := by simp
    rw [hs]
    refine exact_right (W := c.natAbs * 2 ^ 1073) (D := 1) (ofFrac_right (by decide) ?_ (by decide)) (by decide) (by rw [h2, Nat.one_mul]) h1
    rw [Nat.mul_one, show (1074 : Nat) = 1073 + 1 from rfl, Nat.pow_succ]
    generalize (2 : Nat) ^ 1073 = K
    rw [Nat.mul_assoc]; rfl
  obtain ⟨m, e, h4, h5⟩ := decode_pack (decide (c < 0)) h1
  obtain ⟨m2, e2, g1, g2, g3⟩ := fl_val (x := 2) (by decide)
  obtain ⟨t₁, k1, k2, k3⟩ := fl_bits (x := c) (by omega)
  rw [hq, k3]
  have hr := mul_right g1 h4
  have hs : (decide ((2 : Int) < 0) != decide (c < 0)) = decide (c < 0) := by simp
  rw [hs] at hr
  refine exact_right hr (Nat.two_pow_pos _) ?_ k1
  rw [g3, val_pack _ h1, sgn_natAbs, h2, k2, Int.natAbs_mul]
  have : ((2 : Int) ^ 1074).natAbs = 2 ^ 1074 := by
    rw [Int.natAbs_pow]; rfl
  rw [this, show (1074 : Nat) = 1073 + 1 from rfl, Nat.pow_succ]
  generalize (2 : Nat) ^ 1073 = K
  show 2 * (K * 2) * (c.natAbs * K) = K * 2 * (c.natAbs * (K * 2))
  ac_rfl
end Mine
end
section
open PySem PySem.W PySem.Calls PyProof.Rows
namespace Mine
set_option maxRecDepth 100000 in
set_option maxHeartbeats 8000000 in
theorem c_int2apF {w : World} {e : Env} {s : Shared} {R : Result → Shared → Prop} {loose : List Str} {mean : ExcName → Option Value} {mg mb : Str → Option Value}
   (T : Top hd.view_39 loose mean mg mb s.heap) (X : (hd.heap_39 w.params).In s.heap) {x : Int} {u : Tok} (h1 : -4096 < x) (h2 : x < 4096)
   (hR : ∀ h' tk t, (∀ b o, s.heap.get? b = some o → h'.get? b = some o) → R (.ok (.ret (.bytes (apw x.natAbs).toArray t))) { s with heap := h', toks := tk }) :
   codeAny (model PySem.Challenge.rw_nb0141_01.row.prog w) (callerA.deeper e) (.call (.ref 63) ⟨[.float (Float64.ofInt x) u], []⟩) R s := by
  revert X; k_fill; intro X
  refine' callF (binds := [(Str.ofString "num", .float (Float64.ofInt x) u)]) X T.nolimit ?ho ?hcd ?hroom ?hbind ?hloc ?h ?c1 ?c2 ?c3 ?c4
  case ho => k_is
  case hcd => k_is
  case hroom => k_room
  case hbind => exact BindsTo.of_eq rfl
  case hloc => exact locs rfl
  case c1 => exact rfl
  case c2 => exact rfl
  case c3 => exact rfl
  case c4 => decide
  case h =>
    intro L h₁ hL F N
    iterate 23 walk1
    rw [fl_abs (by omega)]
    obtain ⟨fm, fe, hd1, hd2⟩ := fl_trunc (k := x.natAbs) (by omega)
    refine call_int_float hd1 ?_
    rw [hd2]
    iterate 3 walk1
    rename Fr _ _ _ _ => F; rename News _ _ _ _ => N
    refine While_inv2 (fun n m _ => ∃ (b : Array UInt8) (t1 t2 t3 : Tok), m (Str.ofString "num") = some (.int (n : Int) t1) ∧ m (Str.ofString "AP") = some (.bytes #[65, 66, 67, 68, 69, 70, 71, 72, 73, 74, 75, 76, 77, 78, 79, 80] t2) ∧ m (Str.ofString "val") = some (.bytes b t3) ∧ apw n ++ b.toList = apw x.natAbs ∧ b.size ≤ 3 ∧ n * 16 ^ b.size < 4096) (n₀ := x.natAbs) F N ?i0 ?turn
    case i0 =>
      exact ⟨#[], _, _, _, rfl, rfl, rfl, by simp, by simp, by simp; omega⟩
    case turn =>
      clear F N
      rintro n m₁ _ h₁ tk₁ F₁ _ ⟨b, t1, t2, t3, g1, g2, g3, g4, g5, g6⟩
      have F := fr_if (x := Str.ofString "num") (fr_if (x := Str.ofString "AP") (fr_if F₁ g3) (v := .bytes #[65, 66, 67, 68, 69, 70, 71, 72, 73, 74, 75, 76, 77, 78, 79, 80] t2) (by exact g2)) (v := .int n t1) (by exact g1)
      clear F₁
      have N : News s.heap L h₁ [] := News.nil
      iterate 38 (walk1)
      · dsimp only
        rename Fr _ _ _ _ => F; rename News _ _ _ _ => N
        refine KBc.slice_K (s := ⟨_, _, _, _, _⟩) F N rfl (by constructor) (by constructor) (by decide) ?_
        intro h' t' k F' N' hk
        clear F N
        have e1 : (n : Int).fmod 16 = ((n % 16 : Nat) : Int) := by rw [Int.fmod_eq_emod_of_nonneg _ (by decide)]; omega
        have e2 : (n : Int).fdiv 16 = ((n / 16 : Nat) : Int) := by rw [Int.fdiv_eq_ediv_of_nonneg _ (by decide)]; omega
        rw [e1, e2] at F'
        rw [e1] at hk ⊢
        rw [ap_pick (by omega) (by omega)]
        walk1
        refine KBy.add_bytes (by simp; omega) ?_
        intro t'' k''
        iterate 2 walk1
        refine wpAny_execs_nil ?_
        rename Fr _ _ _ _ => F; rename News _ _ _ _ => N
        have hn0 : n ≠ 0 := by omega
        refine ⟨_, _, _, _, n / 16, rfl, F, N, by omega, _, _, _, _, rfl, rfl, rfl, ?_, ?_, ?_⟩
        · rw [← g4, apw_pos hn0, Int.toNat_natCast, Array.toList_append, List.append_assoc]
        · have : b.size ≤ 2 := by
            rcases Nat.lt_or_ge b.size 3 with q | q
            · omega
            · have : b.size = 3 := by omega
              rw [this] at g6; omega
          simp; omega
        · have : (#[UInt8.ofNat (65 + ((n % 16 : Nat) : Int).toNat)] ++ b).size = b.size + 1 := by simp; omega
          rw [this, Nat.pow_succ, Nat.mul_comm (16 ^ b.size) 16, ← Nat.mul_assoc]
          exact Nat.lt_of_le_of_lt (Nat.mul_le_mul_right _ (Nat.div_mul_le_self n 16)) g6
      · dsimp only
        iterate 3 walk1
        have hn0 : n = 0 := by omega
        subst hn0
        rw [apw_zero, List.nil_append] at g4
        have e : b = (apw x.natAbs).toArray := by rw [← g4]
        rw [e]
        exact hR _ _ _ F.keep
end Mine
end
section
open PySem PySem.W PySem.Calls PyProof.Rows
namespace Mine
/-- the values stand for the data, one by one -/
def Are {α : Type} (P : Value → α → Prop) (vs : List Value) (xs : List α) : Prop := vs.length = xs.length ∧ ∀ (i : Nat) v x, vs[i]? = some v → xs[i]? = some x → P v x
def IsFl (v : Value) (x : Int) : Prop := ∃ t, t ≠ 0 ∧ v = .float (Float64.ofInt x) t
theorem Are.nil {α : Type} {P : Value → α → Prop} : Are P [] [] := ⟨rfl, by simp⟩
theorem Are.snoc {α : Type} {P : Value → α → Prop} {vs : List Value} {xs : List α} {v : Value} {x : α} (h : Are P vs xs) (hv : P v x) : Are P (vs ++ [v]) (xs ++ [x]) := by
  refine ⟨by simp [h.1], ?_⟩
  intro i v' x' h1 h2
  rw [List.getElem?_append] at h1 h2
  rw [h.1] at h1
  split at h1
  · rename_i q
    rw [if_pos q] at h2
    exact h.2 i v' x' h1 h2
  · rename_i q
    rw [if_neg q] at h2
    have e : i - xs.length = 0 := by
      rcases Nat.eq_zero_or_pos (i - xs.length) with r | r
      · exact r
      · rw [List.getElem?_eq_none (by simp; omega)] at h1; cases h1
    rw [e] at h1 h2
    cases h1; cases h2; exact hv
theorem mul_small {x n : Int} (hx : -4096 < x ∧ x < 4096) (h0 : 0 ≤ n) (h1 : n ≤ 12) : -50000 < x * n ∧ x * n < 50000 := by
  have a : x * n ≤ 4096 * n := Int.mul_le_mul_of_nonneg_right (by omega) h0
  have b : -4096 * n ≤ x * n := Int.mul_le_mul_of_nonneg_right (by omega) h0
  omega
theorem div_q {prog : Program} {w : World} {A : Around} {E : Value → Shared → Prop} {s : Shared} {Q : Value → Shared → Prop} {a b x : Int} {t u : Tok} (hA : A.handled = none) (e : a = x * b) (hx : -4096 < x ∧ x < 4096) (hb : 0 < b) (hb2 : b ≤ 12)
    (h : Q (.float (Float64.ofInt x) s.toks) { s with toks := s.toks + 1 }) : wpAny (model prog w) A (binaryOp .Div (.int a t) (.int b u)) Q E s := by
  subst e
  have hq := quo_int (x := x) (n := b) (by omega) hb
  unfold quo at hq
  have hm := mul_small hx (by omega) hb2
  refine Flt.div_ii_fits hA (small_fits (by omega)) (fun q => absurd q (by omega)) (fun _ _ => ?_)
  rw [hq]; exact h
set_option maxRecDepth 100000 in
set_option maxHeartbeats 8000000 in
theorem c_exc {w : World} {e : Env} {s : Shared} {R : Result → Shared → Prop} {loose : List Str} {mean : ExcName → Option Value} {mg mb : Str → Option Value}
   (T : Top hd.view_39 loose mean mg mb s.heap) (X : (hd.heap_39 w.params).In s.heap) {a : Addr} {vs : List Value} {ns zs : List Int} (hl : s.heap.IsList a vs.toArray) (hi : IntsAre vs ns) (h4 : 4 ≤ ns.length) (h11 : ns.length ≤ 11)
   (hsm : ∀ x ∈ ns, -4096 < x ∧ x < 4096) (hp : zs.Perm ns) (hs : zs.Pairwise (· ≤ ·)) {nn : Int} {tn tm : Tok} (hnn : nn = ns.length + 1)
   (hR : ∀ h' tk D us k, (∀ b o, s.heap.get? b = some o → h'.get? b = some o) → s.heap.get? D = none → h'.get? D = some (W.listOf us.toArray k) → Are IsFl us zs → R (.ok (.ret (.ref D))) { s with heap := h', toks := tk }) :
   codeAny (model PySem.Challenge.rw_nb0141_01.row.prog w) (callerA.deeper e) (.call (.ref 56) ⟨[.ref a], [(Str.ofString "n", .int nn tn), (Str.ofString "method", .str (Str.ofString "exclusive") tm)]⟩) R s := by
  revert X; k_fill; intro X
  refine' callF (binds := [(Str.ofString "data", .ref a), (Str.ofString "n", .int nn tn), (Str.ofString "method", .str (Str.ofString "exclusive") tm)]) X T.nolimit ?ho ?hcd ?hroom ?hbind ?hloc ?h ?c1 ?c2 ?c3 ?c4
  case ho => k_is
  case hcd => k_is
  case hroom => k_room
  case hbind => exact BindsTo.of_eq rfl
  case hloc => exact locs rfl
  case c1 => exact rfl
  case c2 => exact rfl
  case c3 => exact rfl
  case c4 => decide
  case h =>
    intro L h₁ hL F N
    iterate 77 walk1
    rename List.Perm _ _ => P1; rename List.Pairwise _ _ => O1
    obtain rfl := sorted_unique (P1.trans hp.symm) O1 hs
    rename List Int => us
    have hlen : us.length = ns.length := P1.length_eq
    have hsm' : ∀ x ∈ us, -4096 < x ∧ x < 4096 := fun x hx => hsm x (P1.mem_iff.mp hx)
    have em : (us.length : Int) + 1 = nn := by omega
    rename Fr _ _ _ _ => F; rename News _ _ _ _ => N
    rw [em] at F
    refine For_invV s.heap rfl rfl ?_ (hE := PassesOwn.never)
    iterate 9 walk1
    rename Fr _ _ _ _ => F; rename News _ _ _ _ => N
    rename IsRange _ _ _ _ _ _ _ _ => HR
    rename_i Dd vd cd _ hid _ _ _ _ _ _ _ _ _ _ _ _ _ _ _ l' _ hlt1 _ _ _ _ _ _ _ _ _
    refine rangeJ (n := us.length) (fun k m nx => (∃ t, m (Str.ofString "ld") = some (.int us.length t)) ∧ (∃ t, m (Str.ofString "m") = some (.int nn t)) ∧ m (Str.ofString "n") = some (.int nn tn) ∧ m (Str.ofString "data") = some (.ref Dd) ∧ m (Str.ofString "result") = some (.ref l') ∧ ∃ ys c, nx = [(l', W.listOf (List.toArray ys) c), (Dd, W.listOf vd.toArray cd)] ∧ Are IsFl ys (us.take k)) rfl HR ?sm ?rs F N ⟨⟨_, rfl⟩, ⟨_, rfl⟩, rfl, rfl, rfl, [], 0, rfl, Are.nil⟩ ?turn ?done
    case sm => exact small_one (by decide) (by decide) (by omega) (by omega)
    case rs => rw [rangeSize_nat]; omega
    case turn =>
      clear F N HR
      rintro k t m₁ _ h tk I oI hk ⟨⟨t1, g1⟩, ⟨t2, g2⟩, g3, g4, g5, ys, c, rfl, gA⟩ off F₁ N₁
      have F : Fr s.heap L h _ := fr_if (x := Str.ofString "i") (fr_if (x := Str.ofString "ld") (fr_if (x := Str.ofString "m") (fr_if (x := Str.ofString "n") (fr_if (x := Str.ofString "data") (fr_if (x := Str.ofString "result") F₁ (v := .ref l') (by exact g5)) (v := .ref Dd) (by exact g4)) (v := .int nn tn) (by exact g3)) (v := .int nn t2) (by exact g2)) (v := .int us.length t1) (by exact g1)) (v := .int (1 + k * 1) t) rfl
      have N : News s.heap L h [(I, oI), (l', W.listOf ys.toArray c), (Dd, W.listOf vd.toArray cd)] := N₁
      clear F₁ N₁
      have ei : (1 + (k : Int) * 1) = ((k + 1 : Nat) : Int) := by omega
      rw [ei] at F
      iterate 6 walk1
      refine mul_int ?_ (IntMulOk.of_left (intBits_le_64 (by omega) (by omega)))
      walk1
      have b1 : 0 ≤ ((k + 1 : Nat) : Int) * nn := Int.mul_nonneg (by omega) (by omega)
      have b2 : ((k + 1 : Nat) : Int) * nn ≤ 12 * 12 := Int.mul_le_mul (by omega) (by omega) (by omega) (by omega)
      have q1 : (((k + 1 : Nat) : Int) * nn).fdiv nn = ((k + 1 : Nat) : Int) := Int.mul_fdiv_cancel _ (by omega)
      refine floordiv_int (by omega) ?_
      rw [q1]
      have bk := getD_small hsm' k
      have offI : I ≠ l' := fun q => off _ List.mem_cons_self q.symm
      have hDl : Dd ≠ l' := Nat.ne_of_lt hlt1
      have off2 : ∀ (ys' : List Value) (c' : Nat), ∀ p ∈ [(l', W.listOf ys'.toArray c'), (Dd, W.listOf vd.toArray cd)], p.1 ≠ I := by
        intro ys' c' p hp
        rcases List.mem_cons.mp hp with rfl | hp
        · exact fun q => offI q.symm
        · rw [List.mem_singleton.mp hp]; exact off (Dd, W.listOf vd.toArray cd) (List.mem_cons_of_mem _ List.mem_cons_self)
      have hys : ys.length ≤ sizeLine := by rw [gA.1, List.length_take, sizeLine_eq]; omega
      have hgk : us[k]? = some (us.getD k 0) := by rw [List.getD_eq_getElem?_getD, List.getElem?_eq_getElem hk]; rfl
      have bx : -50000 < us.getD k 0 * nn ∧ us.getD k 0 * nn < 50000 := mul_small bk (by omega) (by omega)
      by_cases hlast : k + 1 = us.length
      · iterate 37 walk1
        have q2 : ((k + 1 : Nat) : Int) * nn - ((us.length : Int) - 1) * nn = nn := by
          rw [hlast, Int.sub_mul, Int.one_mul]; omega
        rw [q2]
        iterate 27 walk1
        have q3 : us.getD ((us.length : Int) - 1 - 1).toNat 0 * (nn - nn) + us.getD ((us.length : Int) - 1).toNat 0 * nn = us.getD k 0 * nn := by
          rw [Int.sub_self, Int.mul_zero, Int.zero_add, show ((us.length : Int) - 1).toNat = k by omega]
        refine div_q rfl q3 bk (by omega) (by omega) ?_
        iterate 10 walk1
        rename Fr _ _ _ _ => F; rename News _ _ _ _ => N
        refine append_K F N (Upd.tail offI (Upd.head (by intro p hp; rw [List.mem_singleton.mp hp]; exact hDl))) ?_ (by rw [List.size_toArray]; exact hys)
        intro h' F' N'
        walk1
        refine wpAny_execs_nil ?_
        rw [List.push_toArray] at N'
        exact ⟨h', _, _, _, rfl, F', N', off2 _ _, ⟨_, rfl⟩, ⟨_, rfl⟩, rfl, rfl, rfl, ys ++ [_], c + 1, rfl, by rw [List.take_add_one, hgk]; exact gA.snoc ⟨_, Nat.succ_ne_zero _, rfl⟩⟩
      · iterate 34 walk1
        have q2 : ((k + 1 : Nat) : Int) * nn - ((k + 1 : Nat) : Int) * nn = 0 := Int.sub_self _
        rw [q2]
        iterate 27 walk1
        have q3 : us.getD (((k + 1 : Nat) : Int) - 1).toNat 0 * (nn - 0) + us.getD ((k + 1 : Nat) : Int).toNat 0 * 0 = us.getD k 0 * nn := by
          rw [Int.sub_zero, Int.mul_zero, Int.add_zero, show (((k + 1 : Nat) : Int) - 1).toNat = k by omega]
        refine div_q rfl q3 bk (by omega) (by omega) ?_
        iterate 10 walk1
        rename Fr _ _ _ _ => F; rename News _ _ _ _ => N
        refine append_K F N (Upd.tail offI (Upd.head (by intro p hp; rw [List.mem_singleton.mp hp]; exact hDl))) ?_ (by rw [List.size_toArray]; exact hys)
        intro h' F' N'
        walk1
        refine wpAny_execs_nil ?_
        rw [List.push_toArray] at N'
        exact ⟨h', _, _, _, rfl, F', N', off2 _ _, ⟨_, rfl⟩, ⟨_, rfl⟩, rfl, rfl, rfl, ys ++ [_], c + 1, rfl, by rw [List.take_add_one, hgk]; exact gA.snoc ⟨_, Nat.succ_ne_zero _, rfl⟩⟩
    case done =>
      clear F N HR
      rintro m₁ _ h tk ⟨⟨t1, g1⟩, ⟨t2, g2⟩, g3, g4, g5, ys, c, rfl, gA⟩ F₁ N
      have F : Fr s.heap L h _ := fr_if (x := Str.ofString "result") F₁ (v := .ref l') (by exact g5)
      rw [List.take_length] at gA
      iterate 3 walk1
      have hN := N (l', W.listOf ys.toArray c) List.mem_cons_self
      exact hR _ _ _ ys c F.keep hN.2.2 hN.1 gA
end Mine
end
section
open PySem PySem.W PySem.Calls PyProof.Rows
namespace Mine
set_option maxRecDepth 100000 in
set_option maxHeartbeats 8000000 in
theorem c_inc {w : World} {e : Env} {s : Shared} {R : Result → Shared → Prop} {loose : List Str} {mean : ExcName → Option Value} {mg mb : Str → Option Value}
   (T : Top hd.view_39 loose mean mg mb s.heap) (X : (hd.heap_39 w.params).In s.heap) {a : Addr} {vs : List Value} {ns zs : List Int} (hl : s.heap.IsList a vs.toArray) (hi : IntsAre vs ns) (h4 : 4 ≤ ns.length) (h11 : ns.length ≤ 11)
   (hsm : ∀ x ∈ ns, -4096 < x ∧ x < 4096) (hp : zs.Perm ns) (hs : zs.Pairwise (· ≤ ·)) {nn : Int} {tn tm : Tok} (hnn : nn = ns.length - 1)
   (hR : ∀ h' tk D us k, (∀ b o, s.heap.get? b = some o → h'.get? b = some o) → s.heap.get? D = none → h'.get? D = some (W.listOf us.toArray k) → Are IsFl us ((zs.drop 1).take (zs.length - 2)) → R (.ok (.ret (.ref D))) { s with heap := h', toks := tk }) :
   codeAny (model PySem.Challenge.rw_nb0141_01.row.prog w) (callerA.deeper e) (.call (.ref 56) ⟨[.ref a], [(Str.ofString "n", .int nn tn), (Str.ofString "method", .str (Str.ofString "inclusive") tm)]⟩) R s := by
  revert X; k_fill; intro X
  refine' callF (binds := [(Str.ofString "data", .ref a), (Str.ofString "n", .int nn tn), (Str.ofString "method", .str (Str.ofString "inclusive") tm)]) X T.nolimit ?ho ?hcd ?hroom ?hbind ?hloc ?h ?c1 ?c2 ?c3 ?c4
  case ho => k_is
  case hcd => k_is
  case hroom => k_room
  case hbind => exact BindsTo.of_eq rfl
  case hloc => exact locs rfl
  case c1 => exact rfl
  case c2 => exact rfl
  case c3 => exact rfl
  case c4 => decide
  case h =>
    intro L h₁ hL F N
    iterate 67 walk1
    rename List.Perm _ _ => P1; rename List.Pairwise _ _ => O1
    obtain rfl := sorted_unique (P1.trans hp.symm) O1 hs
    rename List Int => us
    have hlen : us.length = ns.length := P1.length_eq
    have hsm' : ∀ x ∈ us, -4096 < x ∧ x < 4096 := fun x hx => hsm x (P1.mem_iff.mp hx)
    have em : (us.length : Int) - 1 = nn := by omega
    rename Fr _ _ _ _ => F; rename News _ _ _ _ => N
    rw [em] at F
    refine For_invV s.heap rfl rfl ?_ (hE := PassesOwn.never)
    iterate 9 walk1
    rename Fr _ _ _ _ => F; rename News _ _ _ _ => N
    rename IsRange _ _ _ _ _ _ _ _ => HR
    rename_i Dd vd cd _ hid _ _ _ _ _ _ _ _ _ _ _ _ _ _ l' _ hlt1 _ _ _ _ _ _ _ _ _
    refine rangeJ (n := us.length - 2) (fun k m nx => (∃ t, m (Str.ofString "ld") = some (.int us.length t)) ∧ (∃ t, m (Str.ofString "m") = some (.int nn t)) ∧ m (Str.ofString "n") = some (.int nn tn) ∧ m (Str.ofString "data") = some (.ref Dd) ∧ m (Str.ofString "result") = some (.ref l') ∧ ∃ ys c, nx = [(l', W.listOf (List.toArray ys) c), (Dd, W.listOf vd.toArray cd)] ∧ Are IsFl ys ((us.drop 1).take k)) rfl HR ?sm ?rs F N ⟨⟨_, rfl⟩, ⟨_, rfl⟩, rfl, rfl, rfl, [], 0, rfl, Are.nil⟩ ?turn ?done
    case sm => exact small_one (by decide) (by decide) (by omega) (by omega)
    case rs => rw [rangeSize_nat]; omega
    case turn =>
      clear F N HR
      rintro k t m₁ _ h tk I oI hk ⟨⟨t1, g1⟩, ⟨t2, g2⟩, g3, g4, g5, ys, c, rfl, gA⟩ off F₁ N₁
      have F : Fr s.heap L h _ := fr_if (x := Str.ofString "i") (fr_if (x := Str.ofString "ld") (fr_if (x := Str.ofString "m") (fr_if (x := Str.ofString "n") (fr_if (x := Str.ofString "data") (fr_if (x := Str.ofString "result") F₁ (v := .ref l') (by exact g5)) (v := .ref Dd) (by exact g4)) (v := .int nn tn) (by exact g3)) (v := .int nn t2) (by exact g2)) (v := .int us.length t1) (by exact g1)) (v := .int (1 + k * 1) t) rfl
      have N : News s.heap L h [(I, oI), (l', W.listOf ys.toArray c), (Dd, W.listOf vd.toArray cd)] := N₁
      clear F₁ N₁
      have ei : (1 + (k : Int) * 1) = ((k + 1 : Nat) : Int) := by omega
      rw [ei] at F
      have b1 : 0 ≤ ((k + 1 : Nat) : Int) * nn := Int.mul_nonneg (by omega) (by omega)
      have b2 : ((k + 1 : Nat) : Int) * nn ≤ 12 * 12 := Int.mul_le_mul (by omega) (by omega) (by omega) (by omega)
      have q1 : (((k + 1 : Nat) : Int) * nn).fdiv nn = ((k + 1 : Nat) : Int) := Int.mul_fdiv_cancel _ (by omega)
      have q2 : (((k + 1 : Nat) : Int) * nn).fmod nn = 0 := Int.mul_fmod_left _ _
      have bk := getD_small hsm' (k + 1)
      have offI : I ≠ l' := fun q => off _ List.mem_cons_self q.symm
      have hDl : Dd ≠ l' := Nat.ne_of_lt hlt1
      have off2 : ∀ (ys' : List Value) (c' : Nat), ∀ p ∈ [(l', W.listOf ys'.toArray c'), (Dd, W.listOf vd.toArray cd)], p.1 ≠ I := by
        intro ys' c' p hp
        rcases List.mem_cons.mp hp with rfl | hp
        · exact fun q => offI q.symm
        · rw [List.mem_singleton.mp hp]; exact off (Dd, W.listOf vd.toArray cd) (List.mem_cons_of_mem _ List.mem_cons_self)
      have hys : ys.length ≤ sizeLine := by rw [gA.1, List.length_take, sizeLine_eq]; omega
      have hgk : (us.drop 1)[k]? = some (us.getD (k + 1) 0) := by rw [List.getElem?_drop, Nat.add_comm, List.getD_eq_getElem?_getD, List.getElem?_eq_getElem (by omega)]; rfl
      iterate 24 walk1
      rename Fr _ _ _ _ => F; rename News _ _ _ _ => N0
      rw [q1, q2] at F
      have N : News s.heap L _ [(I, oI), (l', W.listOf ys.toArray c), (Dd, W.listOf vd.toArray cd)] := fun p hp => N0 p (List.mem_cons_of_mem _ hp)
      clear N0
      iterate 25 walk1
      have q3 : us.getD ((k + 1 : Nat) : Int).toNat 0 * (nn - 0) + us.getD (((k + 1 : Nat) : Int) + 1).toNat 0 * 0 = us.getD (k + 1) 0 * nn := by
        rw [Int.sub_zero, Int.mul_zero, Int.add_zero, Int.toNat_natCast]
      refine div_q rfl q3 bk (by omega) (by omega) ?_
      iterate 10 walk1
      rename Fr _ _ _ _ => F; rename News _ _ _ _ => N
      refine append_K F N (Upd.tail offI (Upd.head (by intro p hp; rw [List.mem_singleton.mp hp]; exact hDl))) ?_ (by rw [List.size_toArray]; exact hys)
      intro h' F' N'
      walk1
      refine wpAny_execs_nil ?_
      rw [List.push_toArray] at N'
      exact ⟨h', _, _, _, rfl, F', N', off2 _ _, ⟨_, rfl⟩, ⟨_, rfl⟩, rfl, rfl, rfl, ys ++ [_], c + 1, rfl, by rw [List.take_add_one, hgk]; exact gA.snoc ⟨_, Nat.succ_ne_zero _, rfl⟩⟩
    case done =>
      clear F N HR
      rintro m₁ _ h tk ⟨⟨t1, g1⟩, ⟨t2, g2⟩, g3, g4, g5, ys, c, rfl, gA⟩ F₁ N
      have F : Fr s.heap L h _ := fr_if (x := Str.ofString "result") F₁ (v := .ref l') (by exact g5)
      iterate 3 walk1
      have hN := N (l', W.listOf ys.toArray c) List.mem_cons_self
      exact hR _ _ _ ys c F.keep hN.2.2 hN.1 gA
end Mine
end
section
open PySem PySem.W PySem.Calls PyProof.Rows
namespace Mine
open PyProof.Rows.LCg (lst lst_snoc)
/-- [y for x in i1 for y in x] -/
abbrev flE (x y : Str) (p0 p1 p2 p3 : Pos) (i1 : Expr) (scope : Scope) (pos : Pos) : Expr :=
  .ListComp (.Name y p0) [⟨.Name x p1, i1, [], 0⟩, ⟨.Name y p2, .Name x p3, [], 0⟩] scope pos
section
variable {prog : Program} {w : World} {A : Around} {E : Value → Shared → Prop} {R : Result → Shared → Prop} {s : Shared}
theorem flat_turn1 (x y : Str) (p0 p1 p2 p3 : Pos) (i1 : Expr) (scope : Scope) (pos : Pos) (it acc : Value) (env : Env) :
    compTurn (flE x y p0 p1 p2 p3 i1 scope pos) 1 it acc env = (standAt p3 >>= fun _ => pyNext it >>= fun r => match r with
      | none => pure (.done .next)
      | some v => letOwnedTupleGo (.Name y p2) it v >>= fun _ => assign (.Name y p2) env v >>= fun _ =>
        (eval (.Name y p0) env >>= fun x => call (.builtin "list.append") [acc, x] >>= fun _ => pure ()) >>= fun _ =>
          again (.compLoop (flE x y p0 p1 p2 p3 i1 scope pos) 1 it acc env)) := by rfl
theorem flat_turn0 (x y : Str) (p0 p1 p2 p3 : Pos) (i1 : Expr) (scope : Scope) (pos : Pos) (it acc : Value) (env : Env) :
    compTurn (flE x y p0 p1 p2 p3 i1 scope pos) 0 it acc env = (standAt i1.pos >>= fun _ => pyNext it >>= fun r => match r with
      | none => pure (.done .next)
      | some v => letOwnedTupleGo (.Name x p1) it v >>= fun _ => assign (.Name x p1) env v >>= fun _ =>
        eval (.Name x p3) env >>= fun u => standAt p3 >>= fun _ => foldedSetIterable (.Name x p3) env u >>= fun u => holding [u] (pyIter u) >>= fun it' =>
          runOwn (.compStart (flE x y p0 p1 p2 p3 i1 scope pos) 1 it' acc env) env >>= fun _ =>
          again (.compLoop (flE x y p0 p1 p2 p3 i1 scope pos) 0 it acc env)) := by rfl
/-- the inner loop: all of one list behind the made one -/
theorem flat_inner {x y : Str} {p0 p1 p2 p3 : Pos} {i1 : Expr} {scope : Scope} {pos : Pos} {cenv : Env} {I a D : Addr} {its ys : List Value} {m : Str → Option Value}
    (hh : A.handled = none) (hk : cenv.scope.kind = .function) (hy : cenv.kindOf y = some .local) (hp : (cenv.scope.kind == .class || (cenv.scope.kind == .module && cenv.locals != cenv.globals)) = false) (hdb : (y == ("__debug__" : Str)) = false)
    (hit : s.heap.IsListIter I a 0) (hl : s.heap.IsList a its.toArray) (hD : s.heap.get? D = some (lst ys)) (hn : s.heap.Ns cenv.locals m)
    (haI : a ≠ I) (haC : a ≠ cenv.locals) (haD : a ≠ D) (hDI : D ≠ I) (hDC : D ≠ cenv.locals) (hIC : I ≠ cenv.locals) (hsz : ys.length + its.length ≤ sizeLine)
    (hR : ∀ h' tk m', (∀ b o, b ≠ cenv.locals → b ≠ I → b ≠ D → s.heap.get? b = some o → h'.get? b = some o) → h'.get? D = some (lst (ys ++ its)) → h'.Ns cenv.locals m' → R (.ok .next) { s with heap := h', toks := tk }) :
    codeAny (model prog w) A (.compLoop (flE x y p0 p1 p2 p3 i1 scope pos) 1 (.ref I) (.ref D) cenv) R s := by
  have W := Walks.list (prog := prog) (w := w) hh I a haI its.toArray
  rw [List.size_toArray] at W
  refine codeAny_loop rfl (fun k s' => ∃ h' tk i m', s' = { s with heap := h', toks := tk } ∧ i ≤ its.length ∧ k = its.length + 1 - i ∧ (h'.IsListIter I a i ∧ h'.IsList a its.toArray) ∧
    (∀ b o, b ≠ cenv.locals → b ≠ I → b ≠ D → s.heap.get? b = some o → h'.get? b = some o) ∧ h'.get? D = some (lst (ys ++ its.take i)) ∧ h'.Ns cenv.locals m') ?_ (its.length + 1)
    ⟨s.heap, s.toks, 0, m, rfl, Nat.zero_le _, rfl, ⟨hit, hl⟩, fun _ _ _ _ _ e => e, by simpa using hD, hn⟩
  rintro k s' ⟨h', tk, i, m', rfl, hi, rfl, hst, hex, hD', hn'⟩
  show wpAny _ A ((compTurn (flE x y p0 p1 p2 p3 i1 scope pos) 1 (.ref I) (.ref D) cenv).onRaise (fun x => do noteFrame x cenv; theTreesLotGoes x)) _ _ _
  refine wpAny_noted ?_
  rw [flat_turn1]
  refine wpAny_bind (wpAny_standAt (wpAny_bind ?_))
  by_cases hlt : i < its.length
  · refine W.item i _ _ _ hlt hst fun v h₂ tk₂ hP hst₂ hk₂ => ?_
    have hv : its[i]? = some v := by simpa using hP
    refine wpAny_bind (wpAny_pure (wpAny_bind (wpAny_assign_Name (wpAny_storeName_local hy (hn'.at' fun o e => hk₂ _ o (by simpa using Ne.symm hIC) e) (fun h₃ hn₃ hs₃ => ?_) hp))))
    refine wpAny_bind (wpAny_bind (wpAny_Name (wpAny_loadName_local hk hy hn₃ (by simp; rfl) ?_) hdb))
    have hD₃ : h₃.get? D = some (lst (ys ++ its.take i)) := hs₃.extBut _ _ hDC (hk₂ _ _ (by simpa using hDI) hD')
    refine wpAny_bind (append_at (hsz := by show (ys ++ its.take i).toArray.size ≤ sizeLine; rw [List.size_toArray, List.length_append, List.length_take]; omega) hD₃ fun h₅ hs₅ hD₅ => ?_)
    refine wpAny_pure (wpAny_pure ⟨rfl, its.length + 1 - (i + 1), by omega, h₅, _, i + 1, _, rfl, hlt, rfl, ?_, ?_, ?_, hn₃.sameBut hs₅ (Ne.symm hDC)⟩)
    · refine W.frame _ _ _ (W.frame _ _ _ hst₂ fun b hb o e => hs₃.extBut b o ?_ e) fun b hb o e => hs₅.extBut b o ?_ e
      · rcases List.mem_cons.mp hb with rfl | hb
        · exact hIC
        · rw [List.mem_singleton.mp hb]; exact haC
      · rcases List.mem_cons.mp hb with rfl | hb
        · exact Ne.symm hDI
        · rw [List.mem_singleton.mp hb]; exact haD
    · intro b o q1 q2 q3 e
      exact hs₅.extBut b o q3 (hs₃.extBut b o q1 (hk₂ b o (by simpa using q2) (hex b o q1 q2 q3 e)))
    · rw [hD₅, List.take_add_one, hv, Option.toList, ← List.append_assoc]
      exact congrArg some (lst_snoc _ _)
  · have hin : i = its.length := by omega
    subst hin
    refine W.done _ _ _ hst fun h₂ tk₂ hk₂ => wpAny_pure ?_
    refine hR h₂ tk₂ m' (fun b o q1 q2 q3 e => hk₂ b o (by simpa using q2) (hex b o q1 q2 q3 e)) ?_ (hn'.at' fun o e => hk₂ _ o (by simpa using Ne.symm hIC) e)
    rw [List.take_length] at hD'
    exact hk₂ _ _ (by simpa using hDI) hD'
theorem flat_start1 {x y : Str} {p0 p1 p2 p3 : Pos} {i1 : Expr} {scope : Scope} {pos : Pos} {it acc : Value} {env : Env}
    (h0 : codeAny (model prog w) A (.compLoop (flE x y p0 p1 p2 p3 i1 scope pos) 1 it acc env) R s)
    (h : wpAny (model prog w) A (pyIter it) (fun it' s' => codeAny (model prog w) A (.compLoop (flE x y p0 p1 p2 p3 i1 scope pos) 1 it' acc env) R s')
      (notedBy (model prog w) A env fun x s' => R (.error x) s') s) :
    codeAny (model prog w) A (.compStart (flE x y p0 p1 p2 p3 i1 scope pos) 1 it acc env) R s := by
  refine codeAny_of_tree ?_
  show wpAny _ _ ((compStart (flE x y p0 p1 p2 p3 i1 scope pos) 1 it acc env).onRaise (fun x => do noteFrame x env; standAt theWindowsPlace)) _ _ s
  refine wpAny_notedAt ?_
  unfold compStart
  show wpAny _ _ (ask >>= _) _ _ s
  refine wpAny_bind (wpAny_askSetting (wpAny_ite ?_))
  split
  · first
      | exact wpAny_bind (wpAny_pure (wpAny_pure (And.intro rfl h0)))
      | exact wpAny_pure (And.intro rfl h0)
  · first
      | exact wpAny_bind (wpAny_rule (wpAny_bind (wpAny_standAt (wpAny_bind (wpAny_mono h (fun it' s' h' => wpAny_pure (And.intro rfl h')) fun _ _ x => x)))))
      | (refine wpAny_bind (wpAny_rule ?_); show wpAny _ _ (standAt p3 >>= _) _ _ s; exact wpAny_bind (wpAny_standAt (wpAny_bind (wpAny_mono h (fun it' s' h' => wpAny_pure (And.intro rfl h')) fun _ _ x => x))))
theorem flat_outer {x y : Str} {p0 p1 p2 p3 : Pos} {i1 : Expr} {scope : Scope} {pos : Pos} {cenv : Env} {I P D : Addr} {as : List Addr} {iss : List (List Value)} {m : Str → Option Value}
    (hh : A.handled = none) (hk : cenv.scope.kind = .function) (hx : cenv.kindOf x = some .local) (hy : cenv.kindOf y = some .local) (hp : (cenv.scope.kind == .class || (cenv.scope.kind == .module && cenv.locals != cenv.globals)) = false)
    (hdx : (x == ("__debug__" : Str)) = false) (hdy : (y == ("__debug__" : Str)) = false)
    (hit : s.heap.IsListIter I P 0) (hl : s.heap.IsList P (as.map Value.ref).toArray) (hlen : as.length = iss.length) (hpl : ∀ (j : Nat) a its, as[j]? = some a → iss[j]? = some its → s.heap.IsList a its.toArray)
    (hD : s.heap.get? D = some (lst [])) (hn : s.heap.Ns cenv.locals m)
    (hPI : P ≠ I) (hPC : P ≠ cenv.locals) (hPD : P ≠ D) (hDI : D ≠ I) (hDC : D ≠ cenv.locals) (hIC : I ≠ cenv.locals) (has : ∀ a ∈ as, a ≠ I ∧ a ≠ cenv.locals ∧ a ≠ D) (hsz : iss.flatten.length ≤ sizeLine)
    (hR : ∀ h' tk m', (∀ b o, b ≠ cenv.locals → b ≠ I → b ≠ D → s.heap.get? b = some o → h'.get? b = some o) → h'.get? D = some (lst iss.flatten) → h'.Ns cenv.locals m' → R (.ok .next) { s with heap := h', toks := tk }) :
    codeAny (model prog w) A (.compLoop (flE x y p0 p1 p2 p3 i1 scope pos) 0 (.ref I) (.ref D) cenv) R s := by
  have W := Walks.list (prog := prog) (w := w) hh I P hPI (as.map Value.ref).toArray
  rw [List.size_toArray, List.length_map] at W
  refine codeAny_loop rfl (fun k s' => ∃ h' tk i m', s' = { s with heap := h', toks := tk } ∧ i ≤ as.length ∧ k = as.length + 1 - i ∧ (h'.IsListIter I P i ∧ h'.IsList P (as.map Value.ref).toArray) ∧
    (∀ b o, b ≠ cenv.locals → b ≠ I → b ≠ D → s.heap.get? b = some o → h'.get? b = some o) ∧ h'.get? D = some (lst (iss.take i).flatten) ∧ h'.Ns cenv.locals m') ?_ (as.length + 1)
    ⟨s.heap, s.toks, 0, m, rfl, Nat.zero_le _, rfl, ⟨hit, hl⟩, fun _ _ _ _ _ e => e, by simpa using hD, hn⟩
  rintro k s' ⟨h', tk, i, m', rfl, hi, rfl, hst, hex, hD', hn'⟩
  show wpAny _ A ((compTurn (flE x y p0 p1 p2 p3 i1 scope pos) 0 (.ref I) (.ref D) cenv).onRaise (fun x => do noteFrame x cenv; theTreesLotGoes x)) _ _ _
  refine wpAny_noted ?_
  rw [flat_turn0]
  refine wpAny_bind (wpAny_standAt (wpAny_bind ?_))
  by_cases hlt : i < as.length
  · refine W.item i _ _ _ hlt hst fun v h₂ tk₂ hP hst₂ hk₂ => ?_
    obtain ⟨a, ha⟩ : ∃ a, as[i]? = some a := ⟨as[i], by simp [hlt]⟩
    obtain ⟨its, hits⟩ : ∃ its, iss[i]? = some its := ⟨iss[i]'(by omega), by simp⟩
    have hv : v = .ref a := by
      have : (as.map Value.ref)[i]? = some v := by simpa using hP
      rw [List.getElem?_map, ha] at this
      exact (Option.some.inj this).symm
    subst hv
    have hane := has a (List.mem_of_getElem? ha)
    refine wpAny_bind (wpAny_pure (wpAny_bind (wpAny_assign_Name (wpAny_storeName_local hx (hn'.at' fun o e => hk₂ _ o (by simpa using Ne.symm hIC) e) (fun h₃ hn₃ hs₃ => ?_) hp))))
    refine wpAny_bind (wpAny_Name (wpAny_loadName_local hk hx hn₃ (by simp; rfl) ?_) hdx)
    refine wpAny_bind (wpAny_standAt (wpAny_bind (wpAny_of_eq (a := Value.ref a) rfl (wpAny_bind (wpAny_holding ?_)))))
    have ext₃ : ∀ b o, b ≠ cenv.locals → b ≠ I → h'.get? b = some o → h₃.get? b = some o := fun b o q1 q2 e => hs₃.extBut b o q1 (hk₂ b o (by simpa using q2) e)
    have hla : h₃.IsList a its.toArray := by
      obtain ⟨o, e, r⟩ := hpl i a its ha hits
      exact ⟨o, ext₃ a o hane.2.1 hane.1 (hex a o hane.2.1 hane.1 hane.2.2 e), r⟩
    have hD₃ : h₃.get? D = some (lst (iss.take i).flatten) := ext₃ _ _ hDC hDI hD'
    refine wpAny_pyIter_list hla ?_
    have hst₃ := W.frame _ _ _ hst₂ fun b hb o e => hs₃.extBut b o (by
      rcases List.mem_cons.mp hb with rfl | hb
      · exact hIC
      · rw [List.mem_singleton.mp hb]; exact hPC) e
    have ltof : ∀ {b o}, h₃.get? b = some o → b ≠ h₃.objs.size := fun e => Nat.ne_of_lt (Heap.lt_size e)
    obtain ⟨oa, hoa, _⟩ := id hla
    obtain ⟨oI, hoI, _⟩ := id hst₃.1
    obtain ⟨oP, hoP, _⟩ := id hst₃.2
    obtain ⟨oC, _, _, hoC, _⟩ := id hn₃
    have up : ∀ b o, h₃.get? b = some o → (h₃.push { cls := .type "list_iterator", data := .fields #[.ref a, .int 0 0] }).get? b = some o := fun b o e => Heap.get?_push_of_some _ e
    have hsz2 : (iss.take i).flatten.length + its.length ≤ sizeLine := by
      have e : (iss.take (i + 1)).flatten.length = (iss.take i).flatten.length + its.length := by
        rw [List.take_add_one, hits]; simp
      have : (iss.take (i + 1)).flatten.length ≤ iss.flatten.length := by
        conv => rhs; rw [← List.take_append_drop (i + 1) iss]
        rw [List.flatten_append, List.length_append]; omega
      omega
    refine wpAny_bind (wpAny_runOwn ?_)
    have inner : ∀ RR : Result → Shared → Prop, (∀ h' tk m', (∀ b o, b ≠ cenv.locals → b ≠ h₃.objs.size → b ≠ D → (h₃.push { cls := .type "list_iterator", data := .fields #[.ref a, .int 0 0] }).get? b = some o → h'.get? b = some o) →
        h'.get? D = some (lst ((iss.take i).flatten ++ its)) → h'.Ns cenv.locals m' → RR (.ok .next) { s with heap := h', toks := tk }) →
        codeAny (model prog w) A (.compLoop (flE x y p0 p1 p2 p3 i1 scope pos) 1 (.ref h₃.objs.size) (.ref D) cenv) RR { s with heap := h₃.push { cls := .type "list_iterator", data := .fields #[.ref a, .int 0 0] }, toks := tk₂ + 1 } := by
      intro RR hRR
      exact flat_inner hh hk hy hp hdy ⟨_, Heap.get?_push_size _ rfl, rfl, rfl⟩ (hla.at fun o e => up a o e) (up _ _ hD₃) (hn₃.at' fun o e => up _ o e) (ltof hoa) hane.2.1 hane.2.2 (ltof hD₃) hDC (Ne.symm (ltof hoC)) hsz2 hRR
    refine flat_start1 (inner _ ?_) (wpAny_pyIter_listiter ⟨_, Heap.get?_push_size _ rfl, rfl, rfl⟩ (inner _ ?_))
    all_goals
      intro h₅ tk₅ m₅ hex₅ hD₅ hn₅
      refine wpAny_pure ⟨rfl, as.length + 1 - (i + 1), by omega, h₅, _, i + 1, m₅, rfl, hlt, rfl, ?_, ?_, ?_, hn₅⟩
      · refine W.frame _ _ _ hst₃ fun b hb o e => hex₅ b o ?_ (ltof e) ?_ (up b o e)
        · rcases List.mem_cons.mp hb with rfl | hb
          · exact hIC
          · rw [List.mem_singleton.mp hb]; exact hPC
        · rcases List.mem_cons.mp hb with rfl | hb
          · exact Ne.symm hDI
          · rw [List.mem_singleton.mp hb]; exact hPD
      · intro b o q1 q2 q3 e
        have e3 := ext₃ b o q1 q2 (hex b o q1 q2 q3 e)
        exact hex₅ b o q1 (ltof e3) q3 (up b o e3)
      · rw [hD₅, List.take_add_one, hits]; simp
  · have hin : i = as.length := by omega
    subst hin
    refine W.done _ _ _ hst fun h₂ tk₂ hk₂ => wpAny_pure ?_
    refine hR h₂ tk₂ m' (fun b o q1 q2 q3 e => hk₂ b o (by simpa using q2) (hex b o q1 q2 q3 e)) ?_ (hn'.at' fun o e => hk₂ _ o (by simpa using Ne.symm hIC) e)
    rw [hlen, List.take_length] at hD'
    exact hk₂ _ _ (by simpa using hDI) hD'
/-- t = [y for x in (a list of lists) for y in x] -/
theorem Assign_flat {env : Env} {h₀ : Heap} {x y t : Str} {p0 p1 p2 p3 pt spos : Pos} {i1 : Expr} {scope : Scope} {cl : List (Str × Addr)} {pos : Pos} {P : Addr} {c : Nat} {as : List Addr} {iss : List (List Value)} {m : Str → Option Value} {news : List (Addr × Obj)} {Q : Flow → Shared → Prop}
    (F : Fr h₀ env.locals s.heap m) (N : News h₀ env.locals s.heap news) (hh : A.handled = none)
    (hsw : swapsWith (flE x y p0 p1 p2 p3 i1 scope pos) (some (.Name t pt)) spos.line env = pure true)
    (hclos : closureFor scope env = pure cl) (hcell : ∀ z ∈ scope.names, z.2 ≠ .cell) (hkind : scope.kind = .function)
    (hnames : ∀ z ∈ scope.names, z.2 = .local → scope.names.lookup z.1 = some .local) (hx : scope.names.lookup x = some .local) (hy : scope.names.lookup y = some .local)
    (ht : env.kindOf t = some .local) (hp : (env.scope.kind == .class || (env.scope.kind == .module && env.locals != env.globals)) = false)
    (hdx : (x == ("__debug__" : Str)) = false) (hdy : (y == ("__debug__" : Str)) = false)
    (hP : (P, W.listOf (as.map Value.ref).toArray c) ∈ news) (hlen : as.length = iss.length) (hpl : ∀ (j : Nat) a its, as[j]? = some a → iss[j]? = some its → ∃ k, (a, W.listOf (List.toArray its) k) ∈ news) (hsz : iss.flatten.length ≤ sizeLine)
    (hi : ∀ (Q' : Value → Shared → Prop), Q' (.ref P) s → wpAny (model prog w) A (eval i1 env) Q' E s)
    (h : ∀ D h tk, Fr h₀ env.locals h (fun z => if z = t then some (.ref D) else m z) → News h₀ env.locals h ((D, lst iss.flatten) :: news) → (∀ p ∈ news, p.1 ≠ D) → Q .next { s with heap := h, toks := tk })
    (hs : ∀ x, foldedSetIterable i1 env x = pure x := by intro _; rfl) :
    wpAny (model prog w) A (exec (.Assign [.Name t pt] (flE x y p0 p1 p2 p3 i1 scope pos) spos) env) Q E s := by
  rw [exec_Assign_Name_used _ _ _ _ hsw]
  refine wpAny_bind (wpAny_standAt (wpAny_bind ?_))
  show wpAny _ A (do let _ ← comprehension (flE x y p0 p1 p2 p3 i1 scope pos) scope env _ (newList []) false (eval i1 env) (some (assign (.Name t pt) env))) _ _ s
  refine wpAny_bind (wpAny_mono (wpAny_comprehension_free (use := some (assign (.Name t pt) env)) (Q := fun _ s' => Q .next s') rfl hs hclos hkind hnames
    (hi _ ?_)) (fun _ s' hq => wpAny_pure (wpAny_pure hq)) fun _ _ e => e)
  have hPn := N _ hP
  have hPl : s.heap.IsList P (as.map Value.ref).toArray := ⟨_, hPn.1, rfl, c, rfl⟩
  refine wpAny_pyIter_list hPl ?_
  refine wpAny_newObj_type (wpAny_newFunctionEnv hcell (by intro y hy; simp at hy) (fun h₁ hns₁ hsb₁ => ?_) hkind)
  dsimp only at hns₁ hsb₁ ⊢
  generalize hH1 : s.heap.push { cls := .type "list_iterator", data := .fields #[.ref P, .int 0 0] } = H1 at hns₁ hsb₁ ⊢
  have hI1 : H1.objs.size = s.heap.objs.size + 1 := by rw [← hH1, Heap.size_push]
  have up1 : ∀ b o, s.heap.get? b = some o → H1.get? b = some o := fun b o e => hH1 ▸ Heap.get?_push_of_some _ e
  have it1 : H1.IsListIter s.heap.objs.size P 0 := hH1 ▸ ⟨_, Heap.get?_push_size _ rfl, rfl, rfl⟩
  generalize hH2 : H1.push { cls := .type "list", dict := none, data := .seq ([] : List Value).toArray } = H2 at hns₁ hsb₁ ⊢
  have hI2 : H2.objs.size = s.heap.objs.size + 2 := by rw [← hH2, Heap.size_push, hI1]
  have up2 : ∀ b o, H1.get? b = some o → H2.get? b = some o := fun b o e => hH2 ▸ Heap.get?_push_of_some _ e
  have hD2 : H2.get? H1.objs.size = some (lst []) := hH2 ▸ Heap.get?_push_size _ rfl
  have up3 : ∀ b o, b ≠ H2.objs.size → H2.get? b = some o → h₁.get? b = some o := fun b o q e => hsb₁.extBut b o q (Heap.get?_push_of_some _ e)
  have old : ∀ b o, s.heap.get? b = some o → h₁.get? b = some o := fun b o e => up3 b o (by rw [hI2]; exact Nat.ne_of_lt (Nat.lt_of_lt_of_le (Heap.lt_size e) (Nat.le_add_right _ 2))) (up2 b o (up1 b o e))
  have lt0 : ∀ {b o}, s.heap.get? b = some o → b < s.heap.objs.size := fun e => Heap.lt_size e
  have n1 : ∀ {b o}, s.heap.get? b = some o → b ≠ s.heap.objs.size ∧ b ≠ H2.objs.size ∧ b ≠ H1.objs.size := fun e => by
    refine ⟨Nat.ne_of_lt (lt0 e), ?_, ?_⟩
    · rw [hI2]; exact Nat.ne_of_lt (Nat.lt_of_lt_of_le (lt0 e) (Nat.le_add_right _ 2))
    · rw [hI1]; exact Nat.ne_of_lt (Nat.lt_of_lt_of_le (lt0 e) (Nat.le_add_right _ 1))
  have hDI : H1.objs.size ≠ s.heap.objs.size := by rw [hI1]; exact Nat.ne_of_gt (by omega)
  have hDC : H1.objs.size ≠ H2.objs.size := by rw [hI1, hI2]; exact Nat.ne_of_lt (by omega)
  have hIC : s.heap.objs.size ≠ H2.objs.size := by rw [hI2]; exact Nat.ne_of_lt (by omega)
  have itA : h₁.IsListIter s.heap.objs.size P 0 := by
    obtain ⟨o, e, r⟩ := it1
    exact ⟨o, up3 _ o hIC (up2 _ o e), r⟩
  have pa : ∀ a ∈ as, ∃ o, s.heap.get? a = some o := fun a ha => by
    obtain ⟨j, hj⟩ := List.getElem?_of_mem ha
    obtain ⟨its, hits⟩ : ∃ its, iss[j]? = some its := by
      have : j < as.length := (List.getElem?_eq_some_iff.mp hj).1
      exact ⟨iss[j]'(by omega), by simp⟩
    obtain ⟨k, hk⟩ := hpl j a its hj hits
    exact ⟨_, (N _ hk).1⟩
  have fresh₀ : ∀ a, s.heap.objs.size ≤ a → h₀.get? a = none := fun a ha => by
    cases e : h₀.get? a with
    | none => rfl
    | some o' => exact absurd (lt0 (F.keep a o' e)) (Nat.not_lt.mpr ha)
  have hL : env.locals < s.heap.objs.size := F.ns.lt
  have outer : codeAny (model prog w) A (.compLoop (flE x y p0 p1 p2 p3 i1 scope pos) 0 (.ref s.heap.objs.size) (.ref H1.objs.size) (compEnvC scope cl H2.objs.size env))
      (compPost (model prog w) A E (some (assign (.Name t pt) env)) (fun _ s' => Q .next s') (.ref H1.objs.size) H2.objs.size) { s with heap := h₁, toks := s.toks + ([] : List (Str × Value)).length } := by
    refine flat_outer hh hkind (lookup_relabel_local hx) (lookup_relabel_local hy) (by simp [compEnvC, relabel, hkind]) hdx hdy itA (hPl.at fun o e => old P o e) hlen
      (fun j a its ha hits => ?_) (up3 _ _ hDC hD2) hns₁ (n1 hPn.1).1 (n1 hPn.1).2.1 (n1 hPn.1).2.2 hDI hDC hIC (fun a ha => ?_) hsz ?_
    · obtain ⟨k, hk⟩ := hpl j a its ha hits
      exact ⟨_, old _ _ (N _ hk).1, rfl, k, rfl⟩
    · obtain ⟨o, e⟩ := pa a ha
      exact n1 e
    · intro h' tk m' hex hD' hn'
      have ext : ∀ b o, s.heap.get? b = some o → h'.get? b = some o := fun b o e => hex b o (n1 e).2.1 (n1 e).1 (n1 e).2.2 (old b o e)
      show wpAny _ A (assign (.Name t pt) env (.ref H1.objs.size)) _ _ _
      refine wpAny_assign_Name (wpAny_storeName_local ht (F.ns.at' fun o e => ext _ o e) (fun h₂ hn₂ hs₂ => ?_) hp)
      have hCL : H2.objs.size ≠ env.locals := Nat.ne_of_gt (by rw [hI2]; exact Nat.lt_of_lt_of_le hL (Nat.le_add_right _ 2))
      have hDL : H1.objs.size ≠ env.locals := Nat.ne_of_gt (by rw [hI1]; exact Nat.lt_of_lt_of_le hL (Nat.le_add_right _ 1))
      have hC₀ : h₀.get? H2.objs.size = none := fresh₀ _ (by rw [hI2]; omega)
      have hD₀ : h₀.get? H1.objs.size = none := fresh₀ _ (by rw [hI1]; omega)
      have hL₀ : h₀.get? env.locals = none := Heap.get?_none_of_le F.above
      have F₂ : Fr h₀ env.locals h₂ (fun z => if z = t then some (.ref H1.objs.size) else m z) := ⟨hn₂, fun b o e => hs₂.extBut b o (fun q => by rw [q, hL₀] at e; cases e) (ext b o (F.keep b o e)), F.above⟩
      refine ⟨m', hn'.sameBut hs₂ hCL, fun h'' hs'' => h H1.objs.size h'' _ (F₂.change hs'' hCL hC₀) (fun p hp => ?_) fun p hp => (n1 (N p hp).1).2.2⟩
      rcases List.mem_cons.mp hp with rfl | hp
      · exact ⟨hs''.extBut _ _ hDC (hs₂.extBut _ _ hDL hD'), hDL, hD₀⟩
      · exact ⟨hs''.extBut _ _ (n1 (N p hp).1).2.1 (hs₂.extBut _ _ (N p hp).2.1 (ext _ _ (N p hp).1)), (N p hp).2⟩
  exact codeAny_compStart_list outer (wpAny_pyIter_listiter itA outer)
end
end Mine
end
section
open PySem PySem.W PySem.Calls PyProof.Rows
namespace Mine
open PyProof.Rows.LCg
section
variable {prog : Program} {w : World} {A : Around} {E : Value → Shared → Prop} {s : Shared} {h₀ : Heap} {L : Addr} {m : Str → Option Value} {env : Env} {elt ct : Expr} {x : Str} {scope : Scope} {cl : List (Str × Addr)} {S : List (Addr × Obj) → Prop} {P : Nat → Value → Prop} {Fin : List Value → List (Addr × Obj) → Prop} {news : List (Addr × Obj)}
theorem comp_inv {n : Nat} (Inv : Nat → List Value → List (Addr × Obj) → Prop) (h0 : Inv 0 [] news)
    (turn : ∀ i v I oI C oC D m₂ ys nw h tk (E' : Value → Shared → Prop), i < n → P i v → Inv i ys nw → NsObj oC m₂ → m₂ x = some v → Fr h₀ L h m → News h₀ L h ((I, oI) :: (C, oC) :: (D, lst ys) :: nw) → Off3 I C D nw → ((@Ne Nat I C) ∧ (@Ne Nat I D) ∧ (@Ne Nat C D)) →
      wpAny (model prog w) A (eval elt (compEnvC scope cl C env)) (CompEnd h₀ L m { s with heap := h, toks := tk } I oI C oC D (lst ys) S (fun y nw' => Inv (i + 1) (ys ++ [y]) nw')) E' { s with heap := h, toks := tk })
    (fin : ∀ ys nw, Inv n ys nw → Fin ys nw) : CompRest prog w A h₀ L m env elt x scope cl s S P Fin n 0 [] news := by
  have key : ∀ (j i : Nat) (ys : List Value) (nw : List (Addr × Obj)), i + j = n → Inv i ys nw → CompRest prog w A h₀ L m env elt x scope cl s S P Fin j i ys nw := by
    intro j
    induction j with
    | zero => intro i ys nw hi hI; exact CompRest.zero (fin ys nw ((show i = n by omega) ▸ hI))
    | succ j ih =>
      intro i ys nw hi hI
      refine CompRest.succ ?_
      intro v I oI C oC D m₂ h tk E' hv hC hx F N off ne
      refine wpAny_mono (turn i v I oI C oC D m₂ ys nw h tk E' (by omega) hv hI hC hx F N off ne) (fun y s₂ hq => ?_) fun _ _ e => e
      obtain ⟨h', tk', nw', e, F', N', off', hS, hI'⟩ := hq
      exact ⟨h', tk', nw', e, F', N', off', hS, ih (i + 1) _ nw' (by omega) hI'⟩
  exact key n 0 [] news (by omega) h0
/-- each item makes one value; nothing is kept beside it -/
theorem comp_map {n : Nat} (G : Nat → Value → Prop)
    (turn : ∀ i v I oI C oC D m₂ ys h tk (E' : Value → Shared → Prop), i < n → P i v → NsObj oC m₂ → m₂ x = some v → Fr h₀ L h m → News h₀ L h ((I, oI) :: (C, oC) :: (D, lst ys) :: news) → Off3 I C D news → ((@Ne Nat I C) ∧ (@Ne Nat I D) ∧ (@Ne Nat C D)) →
      wpAny (model prog w) A (eval elt (compEnvC scope cl C env)) (CompEnd h₀ L m { s with heap := h, toks := tk } I oI C oC D (lst ys) S (fun y nw' => nw' = news ∧ G i y)) E' { s with heap := h, toks := tk })
    (fin : ∀ ys, ys.length = n → (∀ (i : Nat) y, ys[i]? = some y → G i y) → Fin ys news) : CompRest prog w A h₀ L m env elt x scope cl s S P Fin n 0 [] news := by
  refine comp_inv (fun i ys nw => nw = news ∧ ys.length = i ∧ ∀ (j : Nat) y, ys[j]? = some y → G j y) ⟨rfl, rfl, by simp⟩ ?_ ?_
  · rintro i v I oI C oC D m₂ ys nw h tk E' hi hv ⟨rfl, hl, hg⟩ hC hx F N off ne
    refine wpAny_mono (turn i v I oI C oC D m₂ ys h tk E' hi hv hC hx F N off ne) (fun y s₂ hq => ?_) fun _ _ e => e
    obtain ⟨h', tk', nw', e, F', N', off', hS, rfl, hy⟩ := hq
    refine ⟨h', tk', nw', e, F', N', off', hS, rfl, by simp [hl], fun j z hz => ?_⟩
    rw [List.getElem?_append] at hz
    split at hz
    · exact hg j z hz
    · have : j - ys.length = 0 := by
        rcases Nat.eq_zero_or_pos (j - ys.length) with q | q
        · exact q
        · rw [List.getElem?_eq_none (by simp; omega)] at hz; cases hz
      rw [this] at hz
      cases hz
      rw [show j = i by omega]; exact hy
  · rintro ys nw ⟨rfl, hl, hg⟩
    exact fin ys hl hg
theorem compT_inv {n : Nat} (Inv : Nat → List Value → List (Addr × Obj) → Prop) (h0 : Inv 0 [] news)
    (turn : ∀ i v I oI C oC D m₂ ys nw h tk (E' : Value → Shared → Prop), i < n → P i v → Inv i ys nw → NsObj oC m₂ → m₂ x = some v → Fr h₀ L h m → News h₀ L h ((I, oI) :: (C, oC) :: (D, lst ys) :: nw) → Off3 I C D nw → ((@Ne Nat I C) ∧ (@Ne Nat I D) ∧ (@Ne Nat C D)) →
      wpAny (model prog w) A (isTrue ct (compEnvC scope cl C env) (eval ct (compEnvC scope cl C env))) (fun ok s' => if ok = true then
        wpAny (model prog w) A (eval elt (compEnvC scope cl C env)) (CompEnd h₀ L m { s with heap := h, toks := tk } I oI C oC D (lst ys) S (fun y nw' => Inv (i + 1) (ys ++ [y]) nw')) E' s'
        else CompEnd h₀ L m { s with heap := h, toks := tk } I oI C oC D (lst ys) S (fun _ nw' => Inv (i + 1) ys nw') Value.none s') E' { s with heap := h, toks := tk })
    (fin : ∀ ys nw, Inv n ys nw → Fin ys nw) : LCt.CompRestT prog w A h₀ L m env ct elt x scope cl s S P Fin n 0 [] news := by
  have key : ∀ (j i : Nat) (ys : List Value) (nw : List (Addr × Obj)), i + j = n → Inv i ys nw → LCt.CompRestT prog w A h₀ L m env ct elt x scope cl s S P Fin j i ys nw := by
    intro j
    induction j with
    | zero => intro i ys nw hi hI; exact LCt.CompRestT.zero (fin ys nw ((show i = n by omega) ▸ hI))
    | succ j ih =>
      intro i ys nw hi hI
      refine LCt.CompRestT.succ ?_
      intro v I oI C oC D m₂ h tk E' hv hC hx F N off ne
      refine wpAny_mono (turn i v I oI C oC D m₂ ys nw h tk E' (by omega) hv hI hC hx F N off ne) (fun ok s₂ hq => ?_) fun _ _ e => e
      cases ok with
      | true =>
        simp only [if_true] at hq ⊢
        refine wpAny_mono hq (fun y s₃ hq => ?_) fun _ _ e => e
        obtain ⟨h', tk', nw', e, F', N', off', hS, hI'⟩ := hq
        exact ⟨h', tk', nw', e, F', N', off', hS, ih (i + 1) _ nw' (by omega) hI'⟩
      | false =>
        simp only [Bool.false_eq_true, if_false] at hq ⊢
        obtain ⟨h', tk', nw', e, F', N', off', hS, hI'⟩ := hq
        exact ⟨h', tk', nw', e, F', N', off', hS, ih (i + 1) _ nw' (by omega) hI'⟩
  exact key n 0 [] news (by omega) h0
/-- each item, tested, makes one value or none -/
theorem compT_map {n : Nat} (G : Nat → Option Value → Prop)
    (turn : ∀ i v I oI C oC D m₂ ys h tk (E' : Value → Shared → Prop), i < n → P i v → NsObj oC m₂ → m₂ x = some v → Fr h₀ L h m → News h₀ L h ((I, oI) :: (C, oC) :: (D, lst ys) :: news) → Off3 I C D news → ((@Ne Nat I C) ∧ (@Ne Nat I D) ∧ (@Ne Nat C D)) →
      wpAny (model prog w) A (isTrue ct (compEnvC scope cl C env) (eval ct (compEnvC scope cl C env))) (fun ok s' => if ok = true then
        wpAny (model prog w) A (eval elt (compEnvC scope cl C env)) (CompEnd h₀ L m { s with heap := h, toks := tk } I oI C oC D (lst ys) S (fun y nw' => nw' = news ∧ G i (some y))) E' s'
        else CompEnd h₀ L m { s with heap := h, toks := tk } I oI C oC D (lst ys) S (fun _ nw' => nw' = news ∧ G i none) Value.none s') E' { s with heap := h, toks := tk })
    (fin : ∀ rs : List (Option Value), rs.length = n → (∀ (i : Nat) r, rs[i]? = some r → G i r) → Fin (rs.filterMap id) news) : LCt.CompRestT prog w A h₀ L m env ct elt x scope cl s S P Fin n 0 [] news := by
  have snoc : ∀ (rs : List (Option Value)) (i : Nat) (r : Option Value), rs.length = i → (∀ (j : Nat) q, rs[j]? = some q → G j q) → G i r → ∀ (j : Nat) q, (rs ++ [r])[j]? = some q → G j q := by
    intro rs i r hl hg hr j z hz
    rw [List.getElem?_append] at hz
    split at hz
    · exact hg j z hz
    · have : j - rs.length = 0 := by
        rcases Nat.eq_zero_or_pos (j - rs.length) with q | q
        · exact q
        · rw [List.getElem?_eq_none (by simp; omega)] at hz; cases hz
      rw [this] at hz
      cases hz
      rw [show j = i by omega]; exact hr
  refine compT_inv (fun i ys nw => nw = news ∧ ∃ rs : List (Option Value), ys = rs.filterMap id ∧ rs.length = i ∧ ∀ (j : Nat) r, rs[j]? = some r → G j r) ⟨rfl, [], rfl, rfl, by simp⟩ ?_ ?_
  · rintro i v I oI C oC D m₂ ys nw h tk E' hi hv ⟨rfl, rs, rfl, hl, hg⟩ hC hx F N off ne
    refine wpAny_mono (turn i v I oI C oC D m₂ _ h tk E' hi hv hC hx F N off ne) (fun ok s₂ hq => ?_) fun _ _ e => e
    cases ok with
    | true =>
      simp only [if_true] at hq ⊢
      refine wpAny_mono hq (fun y s₃ hq => ?_) fun _ _ e => e
      obtain ⟨h', tk', nw', e, F', N', off', hS, rfl, hy⟩ := hq
      exact ⟨h', tk', nw', e, F', N', off', hS, rfl, rs ++ [some y], by simp, by simp [hl], snoc rs i _ hl hg hy⟩
    | false =>
      simp only [Bool.false_eq_true, if_false] at hq ⊢
      obtain ⟨h', tk', nw', e, F', N', off', hS, rfl, hy⟩ := hq
      exact ⟨h', tk', nw', e, F', N', off', hS, rfl, rs ++ [none], by simp, by simp [hl], snoc rs i _ hl hg hy⟩
  · rintro ys nw ⟨rfl, rs, rfl, hl, hg⟩
    exact fin rs hl hg
/-- the end of an element whose reckoning kept all that stood -/
theorem compEnd_keep {I C D : Addr} {oI oC oD : Obj} {nw : List (Addr × Obj)} {h h' : Heap} {tk tk' : Nat} {S : List (Addr × Obj) → Prop} {G : Value → Prop} {y : Value} (F : Fr h₀ L h m) (N : News h₀ L h ((I, oI) :: (C, oC) :: (D, oD) :: nw)) (off : Off3 I C D nw) (hS : S nw)
    (hk : ∀ b o, h.get? b = some o → h'.get? b = some o) (hg : G y) : CompEnd h₀ L m { s with heap := h, toks := tk } I oI C oC D oD S (fun y nw' => nw' = nw ∧ G y) y { s with heap := h', toks := tk' } :=
  ⟨h', tk', nw, rfl, F.keeps hk, N.grown hk, off, hS, rfl, hg⟩
/-- n empty lists -/
theorem piles_rest {n : Nat} {p : Pos}
    (fin : ∀ as : List Addr, as.length = n → as.Nodup → (∀ a ∈ as, ∀ q ∈ news, q.1 ≠ a) → Fin (as.map Value.ref) (as.map (fun a => (a, W.listOf #[] 0)) ++ news)) :
    CompRest prog w A h₀ L m env (.List [] p) x scope cl s (fun _ => True) P Fin n 0 [] news := by
  refine comp_inv (fun i ys nw => ∃ as : List Addr, as.length = i ∧ as.Nodup ∧ (∀ a ∈ as, ∀ q ∈ news, q.1 ≠ a) ∧ ys = as.map Value.ref ∧ nw = as.map (fun a => (a, W.listOf #[] 0)) ++ news) ⟨[], rfl, List.nodup_nil, by simp, rfl, by simp⟩ ?_ ?_
  · rintro i v I oI C oC D m₂ ys nw h tk E' hi hv ⟨as, hl, hnd, hoff, rfl, rfl⟩ hC hx F N off ne
    refine List_ (Calls.spliced_nil ?_)
    refine wpAny_newObj_type ?_
    have fr : ∀ q ∈ (I, oI) :: (C, oC) :: (D, lst (as.map Value.ref)) :: (as.map (fun a => (a, W.listOf #[] 0)) ++ news), q.1 ≠ h.objs.size := fun q hq => Nat.ne_of_lt (Heap.lt_size (N q hq).1)
    have hna : h.objs.size ∉ as := fun hm => fr (h.objs.size, W.listOf #[] 0) (List.mem_cons_of_mem _ (List.mem_cons_of_mem _ (List.mem_cons_of_mem _ (List.mem_append_left _ (List.mem_map.mpr ⟨_, hm, rfl⟩))))) rfl
    have N' := N.push F { cls := .type "list", data := .seq ([] : List Value).toArray }
    refine ⟨_, _, (as ++ [h.objs.size]).map (fun a => (a, W.listOf #[] 0)) ++ news, rfl, F.push _, ?_, ?_, trivial, as ++ [h.objs.size], by simp [hl], ?_, ?_, by simp, rfl⟩
    · intro q hq
      refine N' q ?_
      simp only [List.map_append, List.map_cons, List.map_nil, List.mem_cons, List.mem_append, List.not_mem_nil, or_false] at hq ⊢
      rcases hq with q | q | q | (q | q) | q
      · exact .inr (.inl q)
      · exact .inr (.inr (.inl q))
      · exact .inr (.inr (.inr (.inl q)))
      · exact .inr (.inr (.inr (.inr (.inl q))))
      · exact .inl q
      · exact .inr (.inr (.inr (.inr (.inr q))))
    · refine Off3.of fun q hq => ?_
      have offm := off.mem
      simp only [List.map_append, List.map_cons, List.map_nil, List.mem_append, List.mem_cons, List.not_mem_nil, or_false] at hq
      rcases hq with (q1 | q1) | q1
      · exact offm q (List.mem_append_left _ q1)
      · subst q1
        exact ⟨Ne.symm (fr _ List.mem_cons_self), Ne.symm (fr _ (List.mem_cons_of_mem _ List.mem_cons_self)), Ne.symm (fr _ (List.mem_cons_of_mem _ (List.mem_cons_of_mem _ List.mem_cons_self)))⟩
      · exact offm q (List.mem_append_right _ q1)
    · rw [List.nodup_append]
      exact ⟨hnd, by simp, by intro a ha b hb; rw [List.mem_singleton.mp hb]; intro q; exact hna (q ▸ ha)⟩
    · intro a ha q hq
      rcases List.mem_append.mp ha with ha | ha
      · exact hoff a ha q hq
      · rw [List.mem_singleton.mp ha]
        exact fr q (List.mem_cons_of_mem _ (List.mem_cons_of_mem _ (List.mem_cons_of_mem _ (List.mem_append_right _ hq))))
  · rintro ys nw ⟨as, hl, hnd, hoff, rfl, rfl⟩
    exact fin as hl hnd hoff
end
end Mine
end
section
open PySem PySem.W PySem.Calls PyProof.Rows
namespace Mine
def IsBy (v : Value) (l : List UInt8) : Prop := ∃ t, v = .bytes l.toArray t
/-- the letter of the k-th word at a place, as a number from nought -/
def dig (ws : List (List UInt8)) (pl : Nat) (k : Int) : Nat := ((ws.getD k.toNat []).getD pl 0).toNat - 65
/-- one dealing into sixteen piles -/
def deal (ws : List (List UInt8)) (pl : Nat) (ks : List Int) : List (List Int) := (List.range 16).map fun j => ks.filter fun k => dig ws pl k == j
def ordAt (ws : List (List UInt8)) : Nat → List Int
  | 0 => rangeKs 0 ws.length
  | i + 1 => (deal ws (2 - i) (ordAt ws i)).flatten
theorem ordAt_mem {ws : List (List UInt8)} : ∀ {i : Nat} {k : Int}, k ∈ ordAt ws i → 0 ≤ k ∧ k < ws.length
  | 0, k, h => by have := mem_rangeKs h; omega
  | i + 1, k, h => by
    obtain ⟨l, hl, hk⟩ := List.mem_flatten.mp h
    obtain ⟨j, _, rfl⟩ := List.mem_map.mp hl
    exact ordAt_mem (List.mem_filter.mp hk).1
def PileOk (o : Obj) (l : List Int) : Prop := ∃ us c, o = W.listOf (List.toArray us) c ∧ IntsAre us l
theorem off1_mem {D : Addr} : ∀ {l : List (Addr × Obj)}, LCg.Off1 D l → ∀ p ∈ l, p.1 ≠ D
  | [], _, _, h => nomatch h
  | _ :: _, x, p, h => by
    rcases List.mem_cons.mp h with rfl | h
    · exact x.1
    · exact off1_mem x.2 p h
theorem mem_zip_set {as : List Addr} {objs : List Obj} {q : Nat} {aq : Addr} {o' : Obj} (hnd : as.Nodup) (haq : as[q]? = some aq) {p : Addr × Obj} (hp : p ∈ as.zip (objs.set q o')) : p = (aq, o') ∨ (p ∈ as.zip objs ∧ p.1 ≠ aq) := by
  obtain ⟨i, hi⟩ := List.getElem?_of_mem hp
  rw [List.getElem?_zip_eq_some] at hi
  by_cases e : i = q
  · subst e
    left
    have h1 : p.1 = aq := Option.some.inj (hi.1.symm.trans haq)
    have h2 := hi.2
    rw [List.getElem?_set] at h2
    simp only [if_true] at h2
    split at h2
    · exact Prod.ext h1 (Option.some.inj h2).symm
    · cases h2
  · right
    rw [List.getElem?_set_ne (Ne.symm e)] at hi
    refine ⟨List.mem_of_getElem? (i := i) (by rw [List.getElem?_zip_eq_some]; exact hi), fun q' => e ?_⟩
    have h1 := hi.1
    rw [q', ← haq] at h1
    exact ((List.getElem?_inj (List.getElem?_eq_some_iff.mp haq).1 hnd).mp h1.symm).symm
theorem choose_list {α β : Type} {P : Nat → α → β → Prop} : ∀ (l : List α), (∀ (i : Nat) a, l[i]? = some a → ∃ b, P i a b) → ∃ m : List β, m.length = l.length ∧ ∀ (i : Nat) a b, l[i]? = some a → m[i]? = some b → P i a b := by
  intro l
  induction l generalizing P with
  | nil => intro _; exact ⟨[], rfl, by simp⟩
  | cons x l ih =>
    intro h
    obtain ⟨b, hb⟩ := h 0 x rfl
    obtain ⟨m, hm, hp⟩ := ih (P := fun i => P (i + 1)) (fun i a ha => h (i + 1) a (by simpa using ha))
    refine ⟨b :: m, by simp [hm], fun i a c h1 h2 => ?_⟩
    cases i with
    | zero => cases h1; cases h2; exact hb
    | succ i => exact hp i a c (by simpa using h1) (by simpa using h2)
theorem ints_flatten : ∀ {iss : List (List Value)} {L : List (List Int)}, iss.length = L.length → (∀ (q : Nat) its ks, iss[q]? = some its → L[q]? = some ks → IntsAre its ks) → IntsAre iss.flatten L.flatten
  | [], [], _, _ => .nil
  | [], _ :: _, h, _ => by simp at h
  | _ :: _, [], h, _ => by simp at h
  | its :: r, ks :: R, h, hp => by
    rw [List.flatten_cons, List.flatten_cons]
    exact IntsAre.append (hp 0 its ks rfl rfl) (ints_flatten (by simpa using h) fun q a b h1 h2 => hp (q + 1) a b (by simpa using h1) (by simpa using h2))
theorem filter_split (f : Int → Nat) (n : Nat) : ∀ ks : List Int, (ks.filter fun k => decide (f k < n + 1)).Perm ((ks.filter fun k => decide (f k < n)) ++ ks.filter fun k => f k == n)
  | [] => .nil
  | k :: r => by
    have ih := filter_split f n r
    rcases Nat.lt_trichotomy (f k) n with h | h | h
    · have a : decide (f k < n + 1) = true := decide_eq_true (by omega)
      have b : decide (f k < n) = true := decide_eq_true h
      have c : (f k == n) = false := by simp; omega
      simp only [List.filter_cons, a, b, c, if_true, Bool.false_eq_true, if_false, List.cons_append]
      exact ih.cons k
    · have a : decide (f k < n + 1) = true := decide_eq_true (by omega)
      have b : decide (f k < n) = false := decide_eq_false (by omega)
      have c : (f k == n) = true := by simp [h]
      simp only [List.filter_cons, a, b, c, if_true, Bool.false_eq_true, if_false]
      exact (ih.cons k).trans List.perm_middle.symm
    · have a : decide (f k < n + 1) = false := decide_eq_false (by omega)
      have b : decide (f k < n) = false := decide_eq_false (by omega)
      have c : (f k == n) = false := by simp; omega
      simp only [List.filter_cons, a, b, c, Bool.false_eq_true, if_false]
      exact ih
theorem piles_perm (f : Int → Nat) (ks : List Int) : ∀ n : Nat, ((List.range n).map fun j => ks.filter fun k => f k == j).flatten.Perm (ks.filter fun k => decide (f k < n))
  | 0 => by simp
  | n + 1 => by
    rw [List.range_succ, List.map_append, List.flatten_append]
    simp only [List.map_cons, List.map_nil, List.flatten_cons, List.flatten_nil, List.append_nil]
    exact ((piles_perm f ks n).append_right _).trans (filter_split f n ks).symm
theorem deal_perm {ws : List (List UInt8)} {pl : Nat} {ks : List Int} (h : ∀ k ∈ ks, dig ws pl k < 16) : (deal ws pl ks).flatten.Perm ks := by
  have := piles_perm (dig ws pl) ks 16
  rw [List.filter_eq_self.mpr (fun k hk => decide_eq_true (h k hk))] at this
  exact this
theorem dig_lt {ws : List (List UInt8)} (h3 : ∀ l ∈ ws, l.length = 3 ∧ ∀ c ∈ l, 65 ≤ c.toNat ∧ c.toNat ≤ 80) (pl : Nat) (k : Int) : dig ws pl k < 16 := by
  unfold dig
  rw [List.getD_eq_getElem?_getD (l := ws), List.getD_eq_getElem?_getD]
  cases h : ws[k.toNat]? with
  | none => simp
  | some l =>
    simp only [Option.getD_some]
    cases h2 : l[pl]? with
    | none => simp
    | some c =>
      have := (h3 l (List.mem_of_getElem? h)).2 c (List.mem_of_getElem? h2)
      simp only [Option.getD_some]; omega
theorem ordAt_perm {ws : List (List UInt8)} (h3 : ∀ l ∈ ws, l.length = 3 ∧ ∀ c ∈ l, 65 ≤ c.toNat ∧ c.toNat ≤ 80) : ∀ i : Nat, (ordAt ws i).Perm (rangeKs 0 ws.length)
  | 0 => .refl _
  | i + 1 => (deal_perm fun k _ => dig_lt h3 _ k).trans (ordAt_perm h3 i)
theorem ordAt_length {ws : List (List UInt8)} (h3 : ∀ l ∈ ws, l.length = 3 ∧ ∀ c ∈ l, 65 ≤ c.toNat ∧ c.toNat ≤ 80) (i : Nat) : (ordAt ws i).length = ws.length := by
  rw [(ordAt_perm h3 i).length_eq, rangeKs_length]
set_option maxRecDepth 100000 in
set_option maxHeartbeats 8000000 in
theorem c_piled {w : World} {e : Env} {s : Shared} {R : Result → Shared → Prop} {loose : List Str} {mean : ExcName → Option Value} {mg mb : Str → Option Value}
   (T : Top hd.view_39 loose mean mg mb s.heap) (X : (hd.heap_39 w.params).In s.heap) {a : Addr} {tp : Tok} {vs : List Value} {ws : List (List UInt8)} (hl : s.heap.IsList a vs.toArray) (hw : Are IsBy vs ws) (h11 : ws.length ≤ 11) (hw3 : ∀ l ∈ ws, l.length = 3 ∧ ∀ c ∈ l, 65 ≤ c.toNat ∧ c.toNat ≤ 80)
   (hR : ∀ h' tk D us k, (∀ b o, s.heap.get? b = some o → h'.get? b = some o) → s.heap.get? D = none → h'.get? D = some (W.listOf us.toArray k) → IntsAre us (ordAt ws 3) → R (.ok (.ret (.ref D))) { s with heap := h', toks := tk }) :
   codeAny (model PySem.Challenge.rw_nb0141_01.row.prog w) (callerA.deeper e) (.call (.ref 75) ⟨[.ref a, .int 3 tp], []⟩) R s := by
  revert X; k_fill; intro X
  refine' callF (binds := [(Str.ofString "words", .ref a), (Str.ofString "places", .int 3 tp)]) X T.nolimit ?ho ?hcd ?hroom ?hbind ?hloc ?h ?c1 ?c2 ?c3 ?c4
  case ho => k_is
  case hcd => k_is
  case hroom => k_room
  case hbind => exact BindsTo.of_eq rfl
  case hloc => exact locs rfl
  case c1 => exact rfl
  case c2 => exact rfl
  case c3 => exact rfl
  case c4 => decide
  case h =>
    intro L h₁ hL F N
    have hvl : vs.length = ws.length := hw.1
    iterate 16 walk1
    refine len_list (hl.at fun o e => F.keep a o e) (by rw [List.size_toArray]; omega) ?_
    rw [List.size_toArray, hvl]
    iterate 7 walk1
    refine For_invV s.heap rfl rfl ?_ (hE := PassesOwn.never)
    iterate 17 walk1
    rename Fr _ _ _ _ => F; rename News _ _ _ _ => N
    refine range3_rows F N (by decide) ?_
    clear F N
    intro _ _ _ _ _ HR F N hkR
    rename IsRange _ _ _ _ _ _ _ _ => HR
    rename IntsAre _ _ => hI0
    refine rangeJ (n := 3) (fun i m nx => m (Str.ofString "words") = some (.ref a) ∧ ∃ O us c, m (Str.ofString "order") = some (.ref O) ∧ nx = [(O, W.listOf (List.toArray us) c)] ∧ IntsAre us (ordAt ws i)) rfl HR ?sm ?rs F N ⟨rfl, _, _, _, rfl, rfl, ?j0⟩ ?turn ?done
    case sm => decide
    case rs => decide
    case j0 => simpa [ordAt] using hI0
    case turn =>
      clear F N HR hI0
      rintro i t m₁ _ h tk I oI hi ⟨g1, O, us, c, g2, rfl, gI⟩ off F₁ N
      have epl : ((3 : Int) - 1 + (i : Int) * -1) = ((2 - i : Nat) : Int) := by omega
      rw [epl] at F₁
      generalize hpl : 2 - i = pl at F₁
      have hpl3 : pl < 3 := by omega
      have F : Fr s.heap L h _ := fr_if (x := Str.ofString "place") (fr_if (x := Str.ofString "words") (fr_if (x := Str.ofString "order") F₁ (v := .ref O) (by exact g2)) (v := .ref a) (by exact g1)) (v := .int pl t) rfl
      clear F₁
      refine wpAny_execs_cons ?_
      refine' LCg.Assign_ListComp_U (cl := []) F rfl ?hsw ?hcl ?hce ?hkd ?hna ?hxx ?hyy ?hpp ?_
      case hsw => rfl
      case hcl => rfl
      case hce => decide
      case hkd => rfl
      case hna => decide
      case hxx => rfl
      case hyy => rfl
      case hpp => rfl
      iterate 7 walk1
      rename Fr _ _ _ _ => F; rename News _ _ _ _ => N
      rename IsRange _ _ _ _ _ _ _ _ => HR
      refine LCg.CompSrc.range (n := 16) rfl F N HR (by decide) (by decide) (by decide) (fun g => piles_rest ?_)
      clear F N HR
      intro as hl16 hnd hoff P h2 tk2 F N off1
      dsimp only
      refine wpAny_execs_cons (For_invV s.heap rfl rfl ?_ (hE := PassesOwn.never))
      walk1
      have N' : News s.heap L h2 ((O, W.listOf us.toArray c) :: (I, oI) :: (P, W.listOf (as.map Value.ref).toArray (as.map Value.ref).length) :: as.zip (List.replicate 16 (W.listOf #[] 0))) := by
        intro p hp
        refine N p ?_
        simp only [List.mem_cons, List.mem_append] at hp ⊢
        rcases hp with q | q | q | q
        · exact .inr (.inr (.inr (.inl q)))
        · exact .inr (.inr (.inl q))
        · exact .inl q
        · refine .inr (.inl ?_)
          have := List.of_mem_zip q
          rw [List.mem_map]
          refine ⟨p.1, this.1, ?_⟩
          rw [← List.eq_of_mem_replicate this.2]
      refine listJ (ol := W.listOf us.toArray c) (vs := us) (fun j m nx => m (Str.ofString "words") = some (.ref a) ∧ m (Str.ofString "place") = some (.int pl t) ∧ m (Str.ofString "piles") = some (.ref P) ∧ ∃ objs : List Obj, nx = (O, W.listOf us.toArray c) :: (I, oI) :: (P, W.listOf (as.map Value.ref).toArray (as.map Value.ref).length) :: as.zip objs ∧ objs.length = 16 ∧ ∀ (q : Nat) o, objs[q]? = some o → PileOk o (((ordAt ws i).take j).filter fun k => dig ws pl k == q))
        rfl ⟨rfl, c, rfl⟩ ?mem F N' ⟨rfl, rfl, rfl, _, rfl, by simp, ?j0⟩ ?turn2 ?done2
      case mem => rintro j m nx ⟨_, _, _, objs, rfl, _⟩; exact List.mem_cons_self
      case j0 =>
        intro q o hq
        have := List.eq_of_mem_replicate (List.mem_of_getElem? hq)
        subst this
        exact ⟨[], 0, rfl, by simp; exact .nil⟩
      case turn2 =>
        clear F N N'
        rintro j v m₂ _ h3 tk3 I2 oI2 hv ⟨f1, f2, f3, objs, rfl, hob, hpo⟩ off3 F₂ N
        obtain ⟨k, tkk, rfl, hk⟩ := IntsAre.at gI j v hv
        have hkb := ordAt_mem (List.mem_of_getElem? hk)
        have F : Fr s.heap L h3 _ := fr_if (x := Str.ofString "k") (fr_if (x := Str.ofString "words") (fr_if (x := Str.ofString "place") (fr_if (x := Str.ofString "piles") F₂ (v := .ref P) (by exact f3)) (v := .int pl t) (by exact f2)) (v := .ref a) (by exact f1)) (v := .int k tkk) rfl
        clear F₂
        have hkn : k.toNat < ws.length := by omega
        obtain ⟨l, hwl⟩ : ∃ l, ws[k.toNat]? = some l := ⟨ws[k.toNat], by simp⟩
        obtain ⟨vv, hvv⟩ : ∃ vv, vs[k.toNat]? = some vv := ⟨vs[k.toNat]'(by omega), by simp⟩
        obtain ⟨tb, rfl⟩ := hw.2 _ _ _ hvv hwl
        obtain ⟨hl3, hlc⟩ := hw3 l (List.mem_of_getElem? hwl)
        have hcb := hlc (l.getD pl 0) (by rw [List.getD_eq_getElem?_getD, List.getElem?_eq_getElem (by omega : pl < l.length)]; exact List.getElem_mem _)
        have hdg : dig ws pl k = (l.getD pl 0).toNat - 65 := by unfold dig; rw [List.getD_eq_getElem?_getD (l := ws), hwl]; rfl
        obtain ⟨aq, haq⟩ : ∃ aq, as[dig ws pl k]? = some aq := ⟨as[dig ws pl k]'(by omega), by simp⟩
        obtain ⟨oq, hoq⟩ : ∃ oq, objs[dig ws pl k]? = some oq := ⟨objs[dig ws pl k]'(by omega), by simp⟩
        obtain ⟨uq, cq, rfl, hIq⟩ := hpo _ _ hoq
        have hzm : (aq, W.listOf uq.toArray cq) ∈ as.zip objs := List.mem_of_getElem? (i := dig ws pl k) (by rw [List.getElem?_zip_eq_some]; exact ⟨haq, hoq⟩)
        have hmem : (aq, W.listOf uq.toArray cq) ∈ (I2, oI2) :: (O, W.listOf us.toArray c) :: (I, oI) :: (P, W.listOf (as.map Value.ref).toArray (as.map Value.ref).length) :: as.zip objs := List.mem_cons_of_mem _ (List.mem_cons_of_mem _ (List.mem_cons_of_mem _ (List.mem_cons_of_mem _ hzm)))
        iterate 10 walk1
        refine item_litK (hl.at fun o e => F.keep a o e) (by omega) (by omega) hvv ?_
        walk1
        refine KBy.item_N (by omega) (by omega) (by omega) ?_
        rw [Int.toNat_natCast]
        iterate 2 walk1
        refine item_litK (l := P) (vs := as.map Value.ref) ⟨_, (N _ (List.mem_cons_of_mem _ (List.mem_cons_of_mem _ (List.mem_cons_of_mem _ List.mem_cons_self)))).1, rfl, _, rfl⟩ (by omega) (by omega) (v := .ref aq) (by rw [List.getElem?_map, show (((l.getD pl 0).toNat : Int) - 65).toNat = dig ws pl k by omega, haq]; rfl) ?_
        refine getMethod_append_N N hmem ?_
        iterate 4 walk1
        have huq : uq.length ≤ 11 := by
          rw [hIq.length]
          refine Nat.le_trans (List.length_filter_le _ _) ?_
          rw [List.length_take]
          exact Nat.le_trans (Nat.min_le_right _ _) (by rw [ordAt_length hw3]; exact h11)
        refine append_at (N _ hmem).1 ?_ (by rw [List.size_toArray, sizeLine_eq]; omega)
        intro h5 hs5 ho5
        have F5 := F.change hs5 (N _ hmem).2.1 (N _ hmem).2.2
        have ham : aq ∈ as := List.mem_of_getElem? haq
        have N5 : News s.heap L h5 ((I2, oI2) :: (O, W.listOf us.toArray c) :: (I, oI) :: (P, W.listOf (as.map Value.ref).toArray (as.map Value.ref).length) :: as.zip (objs.set (dig ws pl k) (W.listOf (uq ++ [Value.int k tkk]).toArray (cq + 1)))) := by
          have keep : ∀ p ∈ (I2, oI2) :: (O, W.listOf us.toArray c) :: (I, oI) :: (P, W.listOf (as.map Value.ref).toArray (as.map Value.ref).length) :: as.zip objs, p.1 ≠ aq → h5.get? p.1 = some p.2 ∧ p.1 ≠ L ∧ s.heap.get? p.1 = none :=
            fun p hp hne => ⟨hs5.extBut _ _ hne (N p hp).1, (N p hp).2⟩
          intro p hp
          rcases List.mem_cons.mp hp with rfl | hp
          · exact keep _ List.mem_cons_self (Ne.symm (off3 _ (List.mem_cons_of_mem _ (List.mem_cons_of_mem _ (List.mem_cons_of_mem _ hzm)))))
          rcases List.mem_cons.mp hp with rfl | hp
          · exact keep _ (List.mem_cons_of_mem _ List.mem_cons_self) (hoff aq ham (O, W.listOf us.toArray c) (by simp))
          rcases List.mem_cons.mp hp with rfl | hp
          · exact keep _ (List.mem_cons_of_mem _ (List.mem_cons_of_mem _ List.mem_cons_self)) (hoff aq ham (I, oI) (by simp))
          rcases List.mem_cons.mp hp with rfl | hp
          · exact keep _ (List.mem_cons_of_mem _ (List.mem_cons_of_mem _ (List.mem_cons_of_mem _ List.mem_cons_self))) (fun q => off1_mem off1 (aq, W.listOf #[] 0) (List.mem_append_left _ (List.mem_map.mpr ⟨aq, ham, rfl⟩)) q.symm)
          rcases mem_zip_set hnd haq hp with rfl | ⟨hp, hne⟩
          · refine ⟨?_, (N _ hmem).2⟩
            rw [ho5, List.push_toArray]
          · exact keep p (List.mem_cons_of_mem _ (List.mem_cons_of_mem _ (List.mem_cons_of_mem _ (List.mem_cons_of_mem _ hp)))) hne
        walk1
        refine ⟨h5, _, _, _, rfl, F5, N5, ?_, rfl, rfl, rfl, _, rfl, by simp [hob], ?_⟩
        · intro p hp
          rcases List.mem_cons.mp hp with rfl | hp
          · exact off3 _ List.mem_cons_self
          rcases List.mem_cons.mp hp with rfl | hp
          · exact off3 _ (List.mem_cons_of_mem _ List.mem_cons_self)
          rcases List.mem_cons.mp hp with rfl | hp
          · exact off3 _ (List.mem_cons_of_mem _ (List.mem_cons_of_mem _ List.mem_cons_self))
          rcases mem_zip_set hnd haq hp with rfl | ⟨hp, hne⟩
          · exact off3 (aq, W.listOf uq.toArray cq) (List.mem_cons_of_mem _ (List.mem_cons_of_mem _ (List.mem_cons_of_mem _ hzm)))
          · exact off3 p (List.mem_cons_of_mem _ (List.mem_cons_of_mem _ (List.mem_cons_of_mem _ hp)))
        · intro q o hq
          rw [take_succ_filter _ _ _ _ hk]
          by_cases hqq : q = dig ws pl k
          · subst hqq
            rw [List.getElem?_set_self (by omega)] at hq
            cases hq
            refine ⟨_, _, rfl, ?_⟩
            simp only [beq_self_eq_true, if_true]
            exact IntsAre.append hIq (.cons k tkk .nil)
          · rw [List.getElem?_set_ne (Ne.symm hqq)] at hq
            have hb : (dig ws pl k == q) = false := by simpa using Ne.symm hqq
            simp only [hb, Bool.false_eq_true, if_false, List.append_nil]
            exact hpo q o hq
      case done2 =>
        clear F N N'
        rintro m₂ _ h3 tk3 ⟨f1, f2, f3, objs, rfl, hob, hpo⟩ F₂ N
        have F : Fr s.heap L h3 _ := fr_if (x := Str.ofString "piles") (fr_if (x := Str.ofString "words") F₂ (v := .ref a) (by exact f1)) (v := .ref P) (by exact f3)
        clear F₂
        have gl := gI.length
        rw [gl, List.take_length] at hpo
        obtain ⟨iss, hil, hip⟩ := choose_list (P := fun q o its => ∃ cc, o = W.listOf (List.toArray its) cc ∧ IntsAre its ((ordAt ws i).filter fun k => dig ws pl k == q)) objs (fun q o ho => by obtain ⟨u, cc, h1, h2⟩ := hpo q o ho; exact ⟨u, cc, h1, h2⟩)
        have hint : IntsAre iss.flatten (ordAt ws (i + 1)) := by
          have : ordAt ws (i + 1) = (deal ws pl (ordAt ws i)).flatten := by show (deal ws (2 - i) (ordAt ws i)).flatten = _; rw [hpl]
          rw [this]
          refine ints_flatten (by simp [deal, hil, hob]) fun q its ks h1 h2 => ?_
          have hq : q < 16 := by have := (List.getElem?_eq_some_iff.mp h1).1; omega
          have hks : ks = (ordAt ws i).filter fun k => dig ws pl k == q := by
            simp only [deal, List.getElem?_map, List.getElem?_range hq, Option.map_some] at h2
            exact (Option.some.inj h2).symm
          obtain ⟨cc, _, h4⟩ := hip q (objs[q]'(by omega)) its (by simp) h1
          rw [hks]; exact h4
        have hfl : iss.flatten.length = ws.length := by rw [hint.length, ordAt_length hw3]
        refine wpAny_execs_cons ?_
        refine' Assign_flat (as := as) (iss := iss) (cl := []) F N rfl ?hsw ?hcl ?hce ?hkd ?hna ?hxx ?hyy ?htt ?hpp ?hdx ?hdy ?hP ?hlen ?hpl ?hsz ?hi ?_
        case hsw => rfl
        case hcl => rfl
        case hce => decide
        case hkd => rfl
        case hna => decide
        case hxx => rfl
        case hyy => rfl
        case htt => rfl
        case hpp => rfl
        case hdx => decide
        case hdy => decide
        case hP => exact List.mem_cons_of_mem _ (List.mem_cons_of_mem _ List.mem_cons_self)
        case hlen => omega
        case hpl =>
          intro q aq its h1 h2
          obtain ⟨cc, h4, _⟩ := hip q (objs[q]'(by have := (List.getElem?_eq_some_iff.mp h1).1; omega)) its (by simp) h2
          refine ⟨cc, List.mem_cons_of_mem _ (List.mem_cons_of_mem _ (List.mem_cons_of_mem _ (List.mem_of_getElem? (i := q) ?_)))⟩
          rw [List.getElem?_zip_eq_some]
          refine ⟨h1, ?_⟩
          rw [← h4]; simp
        case hsz => rw [hfl, sizeLine_eq]; omega
        case hi => intro Q' hq; exact ld F rfl hq
        intro D h5 tk5 F5 N5 off5
        dsimp only
        refine wpAny_execs_nil ?_
        refine ⟨h5, _, _, [(D, LCg.lst iss.flatten)], rfl, F5, ?_, ?_, rfl, D, iss.flatten, _, rfl, rfl, hint⟩
        · intro p hp
          rcases List.mem_cons.mp hp with rfl | hp
          · exact N5 _ (by simp)
          · exact N5 p (by rw [List.mem_singleton.mp hp]; simp)
        · intro p hp
          rw [List.mem_singleton.mp hp]
          exact Ne.symm (off5 (I, oI) (by simp))
    case done =>
      clear F N HR hI0
      rintro m₁ _ h tk ⟨g1, O, us, c, g2, rfl, gI⟩ F₁ N
      have F : Fr s.heap L h _ := fr_if (x := Str.ofString "order") F₁ (v := .ref O) (by exact g2)
      iterate 3 walk1
      have hN := N (O, W.listOf us.toArray c) List.mem_cons_self
      exact hR _ _ _ us c F.keep hN.2.2 hN.1 gI
end Mine
end
section
open PySem PySem.W PySem.Calls PyProof.Rows
namespace Mine
section
variable {prog : Program} {w : World} {A : Around} {E : Value → Shared → Prop} {s' : Shared} {base h : Heap} {outer : List Env} {L a e t C : Addr} {m : Str → Option Value} {name : Str} {scope : Scope} {cd : Value}
  {vs : List Value} {b₀ : Stmt} {suite : List Stmt} {pos np : Pos} {rest : List ExceptHandler} {Q : Flow → Shared → Prop} {news : List (Addr × Obj)}
  {p : Program} {loose : List Str} {mg mb : Str → Option Value} {x : Str} {KF : Frag} {bmB : List Value} {newId : String}
/-- an own exception that a callee raised, taken by this frame's handler, whatever frames stand around -/
theorem caught_here (hst : A.frames = some outer) (F : Fr base L h m) (hsm : h.UpToSlots s'.heap) (R : RaisedK base (envOf name scope L a cd :: outer) e (.ref C) t vs news s'.heap)
    (X : KF.In base) (T : TopRead p loose mg mb base) (ex : nsIn KF mainGlobals x = some (some (.ref C))) (q : excIn KF C bmB newId = true) (hbase : bmB.contains (.type "BaseException") = true)
    (k : ∀ h', Fr base L h' m → News base L h' news → h.UpToSlots h' → wpAny (model prog w) ((A.deeper (envOf name scope L a cd)).mark (some (.ref e))) (execs (b₀ :: suite) (envOf name scope L a cd)) Q (fun _ _ => False) { s' with heap := h' })
    (hk : scope.kind = .function) (hx : (envOf name scope L a cd).kindOf x = some .globalImplicit) (hd : (x == ("__debug__" : Str)) = false) :
    wpAny (model prog w) (A.deeper (envOf name scope L a cd)) (noteFrame (.ref e) (envOf name scope L a cd))
      (fun _ s₂ => wpAny (model prog w) (A.deeper (envOf name scope L a cd)) (setFlight (.ref e) none) (fun _ s₃ =>
        wpAny (model prog w) (A.deeper (envOf name scope L a cd)) (handleBy (.ref e) (envOf name scope L a cd) (.ExceptHandler (some (.Name x np)) none (b₀ :: suite) pos :: rest)) Q E s₃) E s₂) E s' := by
  obtain ⟨⟨B, hB, hl, hfl, _⟩, _⟩ := R
  have hBL : B.get? L = none := by
    have := hfl.2.2.1.2.1
    obtain ⟨L', _, hf, hn', _⟩ := this
    have : L = L' := Option.some.inj hf
    rw [this]; exact hn'
  have keepB : ∀ {g : Heap}, B.StaysIn g → News base L g news := fun st qq hq =>
    ⟨st _ _ (hl qq hq).1, (fun z => by have := (hl qq hq).1; rw [z, hBL] at this; cases this), (hl qq hq).2⟩
  refine wpAny_looks_onW (Around.frames_deeper hst) rfl hfl fun g₁ held₁ u₁ => wpAny_landsW held₁ fun g₂ held₂ u₂ => ?_
  have F₂ : Fr base L g₂ m := F.of_stays (flyingW_base hB held₂).1 ((hsm.trans u₁).trans u₂)
  obtain ⟨ob, hob, hobc⟩ := (flyingW_base hB held₂).there
  refine wpAny_handleBy_cons (codeAny_handlers_test (name_K F₂ X T ex ?_ hk hx hd)) (by intro z; cases z)
  obtain ⟨_, _, _, _, _, _, _, _, _, _, _, _, _, _, _, _, _, hC, _, _, TL⟩ := ((own_of_in X T ex q).keeps F₂.keep).obj
  refine wpAny_excMatches_sub_self hC hob hobc (TL.hasType hbase) (codeAny_handlers_suite ?_)
  refine lands_againW held₂ fun g₃ fl₃ u₃ => wpAny_noRaise ?_
  exact k g₃ (F.of_stays (flyingW_base hB fl₃).1 (((hsm.trans u₁).trans u₂).trans u₃)) (keepB fl₃.1) (((hsm.trans u₁).trans u₂).trans u₃)
end
end Mine
end
section
open PySem PySem.W PySem.Calls PyProof.Rows
namespace Mine
theorem ite_two {c : Prop} [Decidable c] {a b : Prop} (ha : c → a) (hb : ¬c → b) : (if c then a else b) := by
  split
  · exact ha ‹_›
  · exact hb ‹_›
section
variable {prog : Program} {w : World} {A A₀ : Around} {s : Shared} {K : Frag} {base h₀ : Heap} {outer : List Env} {L : Addr} {m mg mb : Str → Option Value} {env : Env} {news : List (Addr × Obj)} {p : Program} {loose : List Str} {mean : ExcName → Option Value}
/-- a call of a plain def, whose raise is its own business; the caller's ledger goes along -/
theorem callG {R : Result → Shared → Prop} {name qual : Str} {params : Arguments} {body : List Stmt} {scope : Scope} {dV kV doc pm cdv ct oc : Value} {an od : Option Addr} {osl : Array (Option Value)} {f : Addr} {args : Args} {binds : List (Str × Value)}
    (B : Below A₀ base outer h₀) (F : Fr h₀ L s.heap m) (X₀ : K.In h₀) (N : News h₀ L s.heap news) (T : Top p loose mean mg mb h₀) (hA : A.frames = some (env :: outer)) (hf : env.frame = some L) (hke : env.scope.kind = .function)
    (ho : K.lookup f = some ⟨oc, od, .func (fnOf name qual params body scope dV kV doc pm an cdv ct), osl⟩) (hcd : codeIn K cdv qual = true) (hroom : A.depth < recursionLimit)
    (hbind : BindsTo s (fnOf name qual params body scope dV kV doc pm an cdv ct) args binds) (hloc : ∀ y ∈ binds, scope.names.lookup y.1 = some .local)
    (h : ∀ g L' h₁, Fr h₀ L g m → Fr g L' h₁ (fun y => binds.reverse.lookup y) → News g L' h₁ news → Below A base (env :: outer) g → K.In g → Top p loose mean mg mb g →
      wpAny (model prog w) (A.deeper (envOf qual scope L' f cdv)) (execs body (envOf qual scope L' f cdv))
        (fun fl s' => R (.ok (.ret (match fl with | .ret v => v | _ => .none))) s')
        (fun e s' => wpAny (model prog w) (A.deeper (envOf qual scope L' f cdv)) (leaving (envOf qual scope L' f cdv) e) (fun _ s'' => R (.error e) s'') (fun e' s'' => R (.error e') s'') s')
        { s with heap := h₁, toks := s.toks + binds.length })
    (hco : scope.isCoroutine = false) (hgen : scope.isGenerator = false) (hk : scope.kind = .function)
    (hcell : ∀ x ∈ scope.names, x.2 ≠ .cell) : codeAny (model prog w) A (.call (.ref f) args) R s := by
  have X := X₀.keeps F.keep
  obtain ⟨FG, BG, st, _⟩ := groundX (R := R) B F N hA hf hke
  refine codeAny_call_def (fd := fnOf name qual params body scope dV kV doc pm an cdv ct) (body := body) (binds := binds) hroom (X _ _ ho) rfl (T.nolimit.keeps F.keep) (codeRec_of X hcd) rfl hbind hcell hloc (fun h₁ hns hk₁ => ?_) hco hgen hk
  exact h _ s.heap.objs.size h₁ FG ⟨hns, fun b o e => hk₁ b o (of_hideAll _ e), Nat.le_of_eq (hideAll_size _ _)⟩
    (fun q hq => ⟨hk₁ _ _ (N q hq).1, Nat.ne_of_lt (Heap.lt_size (N q hq).1), hideAll_none _ (List.mem_map_of_mem hq)⟩) BG (X₀.keeps st) (T.keeps st)
end
set_option maxRecDepth 100000 in
set_option maxHeartbeats 8000000 in
theorem c_ref41 {w : World} {env : Env} {s : Shared} {R : Result → Shared → Prop} {loose : List Str} {mean : ExcName → Option Value} {mg mb : Str → Option Value} {h₀ : Heap} {L : Addr} {m : Str → Option Value} {news : List (Addr × Obj)}
   (B : Below callerA h₀ [] h₀) (F₀ : Fr h₀ L s.heap m) (T₀ : Top hd.view_39 loose mean mg mb h₀) (hf : env.frame = some L) (hke : env.scope.kind = .function) (N₀ : News h₀ L s.heap news) (X₀ : (hd.heap_39 w.params).In h₀)
   (hR : ∀ h' tk, Fr h₀ L h' m → News h₀ L h' news → R (.ok (.ret (.bool true))) { s with heap := h', toks := tk }) :
   codeAny (model PySem.Challenge.rw_nb0141_01.row.prog w) (callerA.deeper env) (.call (.ref 82) ⟨[.ref 41], []⟩) R s := by
  revert X₀; k_fill; intro X₀
  refine' callG (binds := [(Str.ofString "ask", .ref 41)]) B F₀ X₀ N₀ T₀ rfl hf hke ?ho ?hcd ?hroom ?hbind ?hloc ?h ?c1 ?c2 ?c3 ?c4
  case ho => k_is
  case hcd => k_is
  case hroom => k_room
  case hbind => exact BindsTo.of_eq rfl
  case hloc => exact locs rfl
  case c1 => exact rfl
  case c2 => exact rfl
  case c3 => exact rfl
  case c4 => decide
  case h =>
    intro g L' h' FG F' N' B' X' T'
    clear B
    iterate 60 walk1
    · rename RaisedK _ _ _ _ _ _ _ _ => RK
      rename Heap.UpToSlots _ _ => UU
      rename Fr _ L' _ _ => FI
      have F2 : Fr h₀ L' _ _ := ⟨FI.ns, fun b o e => FI.keep b o (FG.keep b o e), Nat.le_trans (Nat.le_trans F₀.above (Nat.le_of_lt FG.ns.lt)) FI.above⟩
      refine' caught_here (bmB := [.type "ValueError", .type "Exception", .type "BaseException", .type "object"]) (newId := "ValueError.__new__") B'.stack F2 UU RK X₀ (topRead_of T₀) ?ex ?q ?hb ?_ ?hk ?hx ?hd
      case ex => k_is
      case q => k_exc
      case hb => rfl
      case hk => rfl
      case hx => rfl
      case hd => decide
      intro h2 F3 N3 U3
      iterate 4 walk1
      refine hR _ _ ⟨U3.ns (FG.ns.at' fun o e => FI.keep _ o e), F3.keep, F₀.above⟩ fun q hq => ?_
      have hq3 := N3 q (List.mem_cons_of_mem _ (List.mem_cons_of_mem _ hq))
      exact ⟨hq3.1, (N₀ q hq).2⟩
    · exfalso
      simp_all

set_option maxRecDepth 100000 in
set_option maxHeartbeats 8000000 in
theorem c_ref48 {w : World} {env : Env} {s : Shared} {R : Result → Shared → Prop} {loose : List Str} {mean : ExcName → Option Value} {mg mb : Str → Option Value} {h₀ : Heap} {L : Addr} {m : Str → Option Value} {news : List (Addr × Obj)}
   (B : Below callerA h₀ [] h₀) (F₀ : Fr h₀ L s.heap m) (T₀ : Top hd.view_39 loose mean mg mb h₀) (hf : env.frame = some L) (hke : env.scope.kind = .function) (N₀ : News h₀ L s.heap news) (X₀ : (hd.heap_39 w.params).In h₀)
   (hR : ∀ h' tk, Fr h₀ L h' m → News h₀ L h' news → R (.ok (.ret (.bool true))) { s with heap := h', toks := tk }) :
   codeAny (model PySem.Challenge.rw_nb0141_01.row.prog w) (callerA.deeper env) (.call (.ref 82) ⟨[.ref 48], []⟩) R s := by
  revert X₀; k_fill; intro X₀
  refine' callG (binds := [(Str.ofString "ask", .ref 48)]) B F₀ X₀ N₀ T₀ rfl hf hke ?ho ?hcd ?hroom ?hbind ?hloc ?h ?c1 ?c2 ?c3 ?c4
  case ho => k_is
  case hcd => k_is
  case hroom => k_room
  case hbind => exact BindsTo.of_eq rfl
  case hloc => exact locs rfl
  case c1 => exact rfl
  case c2 => exact rfl
  case c3 => exact rfl
  case c4 => decide
  case h =>
    intro g L' h' FG F' N' B' X' T'
    clear B
    iterate 60 walk1
    · rename RaisedK _ _ _ _ _ _ _ _ => RK
      rename Heap.UpToSlots _ _ => UU
      rename Fr _ L' _ _ => FI
      have F2 : Fr h₀ L' _ _ := ⟨FI.ns, fun b o e => FI.keep b o (FG.keep b o e), Nat.le_trans (Nat.le_trans F₀.above (Nat.le_of_lt FG.ns.lt)) FI.above⟩
      refine' caught_here (bmB := [.type "ValueError", .type "Exception", .type "BaseException", .type "object"]) (newId := "ValueError.__new__") B'.stack F2 UU RK X₀ (topRead_of T₀) ?ex ?q ?hb ?_ ?hk ?hx ?hd
      case ex => k_is
      case q => k_exc
      case hb => rfl
      case hk => rfl
      case hx => rfl
      case hd => decide
      intro h2 F3 N3 U3
      iterate 4 walk1
      refine hR _ _ ⟨U3.ns (FG.ns.at' fun o e => FI.keep _ o e), F3.keep, F₀.above⟩ fun q hq => ?_
      have hq3 := N3 q (List.mem_cons_of_mem _ (List.mem_cons_of_mem _ hq))
      exact ⟨hq3.1, (N₀ q hq).2⟩
    · exfalso
      simp_all

set_option maxRecDepth 100000 in
set_option maxHeartbeats 8000000 in
theorem c_ref34 {w : World} {env : Env} {s : Shared} {R : Result → Shared → Prop} {loose : List Str} {mean : ExcName → Option Value} {mg mb : Str → Option Value} {h₀ : Heap} {L : Addr} {m : Str → Option Value} {news : List (Addr × Obj)}
   (B : Below callerA h₀ [] h₀) (F₀ : Fr h₀ L s.heap m) (T₀ : Top hd.view_39 loose mean mg mb h₀) (hf : env.frame = some L) (hke : env.scope.kind = .function) (N₀ : News h₀ L s.heap news) (X₀ : (hd.heap_39 w.params).In h₀)
   (hR : ∀ h' tk, Fr h₀ L h' m → News h₀ L h' news → R (.ok (.ret (.bool true))) { s with heap := h', toks := tk }) :
   codeAny (model PySem.Challenge.rw_nb0141_01.row.prog w) (callerA.deeper env) (.call (.ref 82) ⟨[.ref 34], []⟩) R s := by
  revert X₀; k_fill; intro X₀
  refine' callG (binds := [(Str.ofString "ask", .ref 34)]) B F₀ X₀ N₀ T₀ rfl hf hke ?ho ?hcd ?hroom ?hbind ?hloc ?h ?c1 ?c2 ?c3 ?c4
  case ho => k_is
  case hcd => k_is
  case hroom => k_room
  case hbind => exact BindsTo.of_eq rfl
  case hloc => exact locs rfl
  case c1 => exact rfl
  case c2 => exact rfl
  case c3 => exact rfl
  case c4 => decide
  case h =>
    intro g L' h' FG F' N' B' X' T'
    clear B
    iterate 60 walk1
    · rename RaisedK _ _ _ _ _ _ _ _ => RK
      rename Heap.UpToSlots _ _ => UU
      rename Fr _ L' _ _ => FI
      have F2 : Fr h₀ L' _ _ := ⟨FI.ns, fun b o e => FI.keep b o (FG.keep b o e), Nat.le_trans (Nat.le_trans F₀.above (Nat.le_of_lt FG.ns.lt)) FI.above⟩
      refine' caught_here (bmB := [.type "ValueError", .type "Exception", .type "BaseException", .type "object"]) (newId := "ValueError.__new__") B'.stack F2 UU RK X₀ (topRead_of T₀) ?ex ?q ?hb ?_ ?hk ?hx ?hd
      case ex => k_is
      case q => k_exc
      case hb => rfl
      case hk => rfl
      case hx => rfl
      case hd => decide
      intro h2 F3 N3 U3
      iterate 4 walk1
      refine hR _ _ ⟨U3.ns (FG.ns.at' fun o e => FI.keep _ o e), F3.keep, F₀.above⟩ fun q hq => ?_
      have hq3 := N3 q (List.mem_cons_of_mem _ (List.mem_cons_of_mem _ hq))
      exact ⟨hq3.1, (N₀ q hq).2⟩
    · exfalso
      simp_all

end Mine
end
section
open PySem PySem.W PySem.Calls PyProof.Rows
namespace Mine
set_option maxRecDepth 100000 in
set_option maxHeartbeats 8000000 in
theorem c_ref56 {w : World} {env : Env} {s : Shared} {R : Result → Shared → Prop} {loose : List Str} {mean : ExcName → Option Value} {mg mb : Str → Option Value} {h₀ : Heap} {L : Addr} {m : Str → Option Value} {news : List (Addr × Obj)}
   (B : Below callerA h₀ [] h₀) (F₀ : Fr h₀ L s.heap m) (T₀ : Top hd.view_39 loose mean mg mb h₀) (hf : env.frame = some L) (hke : env.scope.kind = .function) (N₀ : News h₀ L s.heap news) (X₀ : (hd.heap_39 w.params).In h₀)
   (hR : ∀ h' tk, Fr h₀ L h' m → News h₀ L h' news → R (.ok (.ret (.bool true))) { s with heap := h', toks := tk }) :
   codeAny (model PySem.Challenge.rw_nb0141_01.row.prog w) (callerA.deeper env) (.call (.ref 82) ⟨[.ref 56], []⟩) R s := by
  revert X₀; k_fill; intro X₀
  refine' callG (binds := [(Str.ofString "ask", .ref 56)]) B F₀ X₀ N₀ T₀ rfl hf hke ?ho ?hcd ?hroom ?hbind ?hloc ?h ?c1 ?c2 ?c3 ?c4
  case ho => k_is
  case hcd => k_is
  case hroom => k_room
  case hbind => exact BindsTo.of_eq rfl
  case hloc => exact locs rfl
  case c1 => exact rfl
  case c2 => exact rfl
  case c3 => exact rfl
  case c4 => decide
  case h =>
    intro g L' h' FG F' N' B' X' T'
    clear B
    iterate 64 walk1
    refine ite_two (fun hh => ?_) (fun hh => ?_)
    · exfalso
      simp_all
    iterate 15 walk1
    · rename RaisedK _ _ _ _ _ _ _ _ => RK
      rename Heap.UpToSlots _ _ => UU
      rename Fr _ L' _ _ => FI
      have F2 : Fr h₀ L' _ _ := ⟨FI.ns, fun b o e => FI.keep b o (FG.keep b o e), Nat.le_trans (Nat.le_trans F₀.above (Nat.le_of_lt FG.ns.lt)) FI.above⟩
      refine' caught_here (bmB := [.type "ValueError", .type "Exception", .type "BaseException", .type "object"]) (newId := "ValueError.__new__") B'.stack F2 UU RK X₀ (topRead_of T₀) ?ex ?q ?hb ?_ ?hk ?hx ?hd
      case ex => k_is
      case q => k_exc
      case hb => rfl
      case hk => rfl
      case hx => rfl
      case hd => decide
      intro h2 F3 N3 U3
      iterate 4 walk1
      refine hR _ _ ⟨U3.ns (FG.ns.at' fun o e => FI.keep _ o e), F3.keep, F₀.above⟩ fun q hq => ?_
      have hq3 := N3 q (List.mem_cons_of_mem _ (List.mem_cons_of_mem _ hq))
      exact ⟨hq3.1, (N₀ q hq).2⟩

end Mine
end
section
open PySem PySem.W PySem.Calls PyProof.Rows
namespace Mine
theorem flat_st {prog : Program} {w : World} {A : Around} {α : Type} {t : Sem α} {Q : α → Shared → Prop} {E : Value → Shared → Prop} {s s₁ : Shared} {h : Heap} {tk : Nat} (e : s = { s₁ with heap := h, toks := tk })
    (H : ∀ tk', wpAny (model prog w) A t Q E { s₁ with heap := h, toks := tk' }) : wpAny (model prog w) A t Q E s := e ▸ H tk
end Mine
end
section
open PySem PySem.W PySem.Calls PyProof.Rows
namespace Mine
open PyProof.Rows.LCg
section
variable {prog : Program} {w : World} {A : Around} {s₁ : Shared} {h₀ : Heap} {L ax : Addr} {m : Str → Option Value} {env : Env} {elt ct : Expr} {x : Str} {scope : Scope} {cl : List (Str × Addr)} {news : List (Addr × Obj)} {vs : List Value} {k : Nat} {Q : Value → Shared → Prop}
/-- a comprehension over a list of the ledger: each item makes one value, and all that stood still stands -/
theorem map_src (hh : A.handled = none) (F : Fr h₀ L s₁.heap m) (N : News h₀ L s₁.heap news) (hm : (ax, W.listOf vs.toArray k) ∈ news) (hsz : vs.length ≤ sizeLine) (G : Nat → Value → Prop)
    (turn : ∀ i v I oI C oC D m₂ ys h tk (E' : Value → Shared → Prop) (Q' : Value → Shared → Prop), vs[i]? = some v → NsObj oC m₂ → m₂ x = some v → Fr h₀ L h m → News h₀ L h ((I, oI) :: (C, oC) :: (D, lst ys) :: news) →
      (∀ y h' tk', (∀ b o, h.get? b = some o → h'.get? b = some o) → G i y → Q' y { s₁ with heap := h', toks := tk' }) →
      wpAny (model prog w) A (eval elt (compEnvC scope cl C env)) Q' E' { s₁ with heap := h, toks := tk })
    (fin : ∀ ys : List Value, ys.length = vs.length → (∀ (i : Nat) y, ys[i]? = some y → G i y) → ∀ D h tk, Fr h₀ L h m → News h₀ L h ((D, W.listOf ys.toArray ys.length) :: news) → Q (.ref D) { s₁ with heap := h, toks := tk }) :
    CompSrc prog w A h₀ L m env elt x scope cl (fun s₂ => FinE h₀ L m s₂ Q) (.ref ax) s₁ := by
  refine CompSrc.ledger (k := k) hh F N hm (by rw [List.size_toArray]; exact hsz) fun g => comp_map G ?_ ?_
  · intro i v I oI C oC D m₂ ys h tk E' hi hv hC hx F' N' off ne
    refine turn i v I oI C oC D m₂ ys h tk E' _ (by simpa using hv) hC hx F' N' fun y h' tk' hk hg => ?_
    exact ⟨h', tk', news, rfl, F'.keeps hk, N'.grown hk, off, .inr ⟨_, hm, rfl, _, rfl⟩, rfl, hg⟩
  · intro ys hl hg D h tk F' N' _
    exact fin ys (by simpa using hl) hg D h tk F' N'
/-- the same with one test -/
theorem test_src (hh : A.handled = none) (F : Fr h₀ L s₁.heap m) (N : News h₀ L s₁.heap news) (hm : (ax, W.listOf vs.toArray k) ∈ news) (hsz : vs.length ≤ sizeLine) (G : Nat → Option Value → Prop)
    (turn : ∀ i v I oI C oC D m₂ ys h tk (E' : Value → Shared → Prop) (Q' : Value → Shared → Prop) (Q0 : Shared → Prop), vs[i]? = some v → NsObj oC m₂ → m₂ x = some v → Fr h₀ L h m → News h₀ L h ((I, oI) :: (C, oC) :: (D, lst ys) :: news) →
      (∀ y h' tk', (∀ b o, h.get? b = some o → h'.get? b = some o) → G i (some y) → Q' y { s₁ with heap := h', toks := tk' }) →
      (∀ h' tk', (∀ b o, h.get? b = some o → h'.get? b = some o) → G i none → Q0 { s₁ with heap := h', toks := tk' }) →
      wpAny (model prog w) A (isTrue ct (compEnvC scope cl C env) (eval ct (compEnvC scope cl C env))) (fun ok s' => if ok = true then wpAny (model prog w) A (eval elt (compEnvC scope cl C env)) Q' E' s' else Q0 s') E' { s₁ with heap := h, toks := tk })
    (fin : ∀ rs : List (Option Value), rs.length = vs.length → (∀ (i : Nat) r, rs[i]? = some r → G i r) → ∀ D h tk, Fr h₀ L h m → News h₀ L h ((D, W.listOf (rs.filterMap id).toArray (rs.filterMap id).length) :: news) → Q (.ref D) { s₁ with heap := h, toks := tk }) :
    LCt.CompSrcT prog w A h₀ L m env ct elt x scope cl (fun s₂ => FinE h₀ L m s₂ Q) (.ref ax) s₁ := by
  refine LCt.CompSrcT.ledger (k := k) hh F N hm (by rw [List.size_toArray]; exact hsz) fun g => compT_map G ?_ ?_
  · intro i v I oI C oC D m₂ ys h tk E' hi hv hC hx F' N' off ne
    refine turn i v I oI C oC D m₂ ys h tk E' _ _ (by simpa using hv) hC hx F' N' (fun y h' tk' hk hg => ?_) fun h' tk' hk hg => ?_
    · exact ⟨h', tk', news, rfl, F'.keeps hk, N'.grown hk, off, .inr ⟨_, hm, rfl, _, rfl⟩, rfl, hg⟩
    · exact ⟨h', tk', news, rfl, F'.keeps hk, N'.grown hk, off, .inr ⟨_, hm, rfl, _, rfl⟩, rfl, hg⟩
  · intro rs hl hg D h tk F' N' _
    exact fin rs (by simpa using hl) hg D h tk F' N'
end
end Mine
end
section
open PySem PySem.W PySem.Calls PyProof.Rows PySem.SeqAt
namespace Mine
/-- no reader has booked a token whose sharing is not told -/
def NotTold (h : Heap) : Prop := ∀ M : Model, Looks M h (nsGet cStatics sharingNotToldKey) none
def IsI (v : Value) (x : Int) : Prop := ∃ t, v = .int x t
theorem ints_of_are : ∀ {vs : List Value} {xs : List Int}, Are IsI vs xs → IntsAre vs xs
  | [], [], _ => .nil
  | [], _ :: _, h => by cases h.1
  | _ :: _, [], h => by cases h.1
  | v :: vs, x :: xs, h => by
    obtain ⟨t, rfl⟩ := h.2 0 v x rfl rfl
    exact .cons x t (ints_of_are ⟨by have := h.1; simpa using this, fun i v x h1 h2 => h.2 (i + 1) v x h1 h2⟩)
theorem are_of_ints {vs : List Value} {xs : List Int} (h : IntsAre vs xs) : Are IsI vs xs :=
  ⟨h.length, fun i v x h1 h2 => by
    obtain ⟨k, t, rfl, hk⟩ := IntsAre.at h i v h1
    rw [h2] at hk; cases hk; exact ⟨t, rfl⟩⟩
theorem are_of {α : Type} {R : Value → α → Prop} {ys : List Value} {xs : List α} (hl : ys.length = xs.length) (hG : ∀ (i : Nat) y, ys[i]? = some y → ∀ z, xs[i]? = some z → R y z) : Are R ys xs := ⟨hl, fun i v x h1 h2 => hG i v h1 x h2⟩
section
variable {prog : Program} {w : World} {A : Around} {s : Shared} {E : Value → Shared → Prop} {Q : Value → Shared → Prop}
theorem eqAt_fi {x : Int} {t u : Tok} (hx : x.natAbs < 2 ^ 53) : EqAt A s (.float (Float64.ofInt x) t) (.int x u) true := fun prog w E Q hq => by
  unfold eqBool
  refine wpAny_holding ?_
  refine wpAny_ite_split (fun hab => ?_) (fun _ => ?_)
  · exact wpAny_bind (wpAny_rule (wpAny_pure hq))
  · exact wpAny_bind (eq_fi (by rw [fl_cmp hx]; exact wpAny_truthy_bool hq))
theorem eqAt_bb {l : List UInt8} {t u : Tok} : EqAt A s (.bytes l.toArray t) (.bytes l.toArray u) true := fun prog w E Q hq => by
  unfold eqBool
  refine wpAny_holding ?_
  refine wpAny_ite_split (fun hab => ?_) (fun _ => ?_)
  · exact wpAny_bind (wpAny_rule (wpAny_pure hq))
  · exact wpAny_bind (eq_bytes (by rw [beq_self_eq_true]; exact wpAny_truthy_bool hq))
theorem not_told {M : Model} {t : Tok} {Q : Bool → Shared → Prop} (hb : NotTold s.heap) (h : Q false s) : wpAny M A (sharingNotTold t) Q E s := by
  unfold sharingNotTold
  exact wpAny_bind ((hb M).here (wpAny_pure h))
theorem same_ff {M : Model} {a b : UInt64} {u v : Tok} {Q : Bool → Shared → Prop}
    (h0 : (u == 0 || v == 0) = false) (hb : NotTold s.heap) (hq : ∀ b, Q b s) : wpAny M A (isSame (.float a u) (.float b v)) Q E s := by
  show wpAny M A (isSame.created (a == b && !Float64.isNaN a) u v) Q E s
  unfold isSame.created
  refine wpAny_ite ?_
  split
  · rename_i h; rw [h0] at h; exact absurd h Bool.false_ne_true
  refine wpAny_ite ?_
  split
  · exact wpAny_pure (hq _)
  refine wpAny_ite ?_
  split
  · exact wpAny_pure (hq _)
  refine wpAny_bind (not_told hb ?_)
  refine wpAny_ite ?_
  rw [if_neg Bool.false_ne_true]
  refine wpAny_bind (not_told hb ?_)
  refine wpAny_ite ?_
  rw [if_neg Bool.false_ne_true]
  exact wpAny_bind (wpAny_rule (wpAny_bind (wpAny_askSetting (wpAny_pure (hq _)))))
theorem eqAt_ff {x : Int} {t u : Tok} (hx : x.natAbs < 2 ^ 53) (ht : t ≠ 0) (hu : u ≠ 0) (hb : NotTold s.heap) : EqAt A s (.float (Float64.ofInt x) t) (.float (Float64.ofInt x) u) true := fun prog w E Q hq => by
  unfold eqBool
  refine wpAny_holding ?_
  refine wpAny_ite_split (fun hab => ?_) (fun _ => ?_)
  · exact wpAny_bind (wpAny_rule (wpAny_pure hq))
  · refine wpAny_bind (same_ff (by simp [ht, hu]) hb fun b => ?_)
    cases b with
    | true => exact wpAny_pure hq
    | false => exact wpAny_bind (AutoFloatOps.eq_0 (by rw [fl_cmpf hx]; exact wpAny_truthy_bool hq))
theorem not_told_of {K : Frag} {h : Heap} (X : K.In h) (q : nsIn K cStatics sharingNotToldKey = some none) : NotTold h := fun _ => looks_nsIn X q
theorem ne_lists {l b : Addr} {vs us : List Value} (hl : s.heap.IsList l vs.toArray) (hb : s.heap.IsList b us.toArray) (hlen : vs.length = us.length) (hu : A.units < cLine)
    (he : ∀ (i : Nat) v u, vs[i]? = some v → us[i]? = some u → EqAt A.in1 s v u true) (h : Q (.bool false) s) : wpAny (model prog w) A (compareOp .NotEq (.ref l) (.ref b)) Q E s := by
  show wpAny _ A (richCompare .NotEq _ _) Q E s
  refine RcNeAt.lists (e := fun _ => true) hl hb (by simpa using hlen) hu (fun j h1 h2 => ?_) prog w E Q ?_
  · exact he j _ _ (by simp) (by simp)
  · have : (!(List.range vs.toArray.size).all fun _ => true) = false := by simp
    rw [this]; exact h
end
end Mine
end
section
open PySem PySem.W PySem.Calls PyProof.Rows
namespace Mine
def padw (n : Nat) : List UInt8 := List.replicate (3 - (apw n).length) 65 ++ apw n
theorem padw_all {ns : List Int} (hsm : ∀ x ∈ ns, -4096 < x ∧ x < 4096) : ∀ l ∈ ns.map (fun x => padw x.natAbs), l.length = 3 ∧ ∀ c ∈ l, 65 ≤ c.toNat ∧ c.toNat ≤ 80 := by
  intro l hl
  obtain ⟨x, hx, rfl⟩ := List.mem_map.mp hl
  have hb := hsm x hx
  have h3 : (apw x.natAbs).length ≤ 3 := apw_len _ 3 (by omega)
  refine ⟨by simp only [padw, List.length_append, List.length_replicate]; omega, fun c hc => ?_⟩
  rcases List.mem_append.mp hc with h | h
  · rw [List.eq_of_mem_replicate h]; decide
  · exact apw_ok _ c h
/-- the law's order of the row's places -/
def ordOf (ns : List Int) : List Int := (ordAt (ns.map fun x => padw x.natAbs) 3).reverse.filter (fun k => decide (ns.getD k.toNat 0 < 0)) ++ (ordAt (ns.map fun x => padw x.natAbs) 3).filter (fun k => decide (ns.getD k.toNat 0 ≥ 0))
def sortedOf (ns : List Int) : List Int := (ordOf ns).map fun k => ns.getD k.toNat 0
theorem ordOf_sub {ns : List Int} {k : Int} (h : k ∈ ordOf ns) : k ∈ ordAt (ns.map fun x => padw x.natAbs) 3 := by
  rcases List.mem_append.mp h with h | h
  · exact List.mem_reverse.mp (List.mem_filter.mp h).1
  · exact (List.mem_filter.mp h).1
theorem plain_mem {ns : List Int} (hsm : ∀ x ∈ ns, -4096 < x ∧ x < 4096) : ∀ k ∈ ordOf ns, 0 ≤ k ∧ k < ns.length := fun k hk => by
  have := ordAt_mem (ordOf_sub hk)
  rw [List.length_map] at this
  omega
theorem map_range (ns : List Int) : (rangeKs 0 ns.length).map (fun k => ns.getD k.toNat 0) = ns := by
  refine List.ext_getElem? fun i => ?_
  rw [List.getElem?_map]
  by_cases h : i < ns.length
  · have : (rangeKs 0 ns.length)[i]? = some ((i : Nat) : Int) := by simp [rangeKs, h]
    rw [this, Option.map_some, Int.toNat_natCast, List.getD_eq_getElem?_getD, List.getElem?_eq_getElem h]; rfl
  · rw [List.getElem?_eq_none (by simp [rangeKs]; omega), List.getElem?_eq_none (by omega)]; rfl
theorem plain_perm {ns : List Int} (hsm : ∀ x ∈ ns, -4096 < x ∧ x < 4096) : (sortedOf ns).Perm ns := by
  have h1 : (ordOf ns).Perm (rangeKs 0 ns.length) := by
    have hp := ordAt_perm (padw_all hsm) 3
    rw [List.length_map] at hp
    refine List.Perm.trans ?_ hp
    unfold ordOf
    generalize ordAt (ns.map fun x => padw x.natAbs) 3 = po
    refine List.Perm.trans (List.Perm.append_right _ ((List.reverse_perm po).filter _)) ?_
    have e : (fun k : Int => decide (ns.getD k.toNat 0 ≥ 0)) = fun k => !decide (ns.getD k.toNat 0 < 0) := by
      funext k
      by_cases h : ns.getD k.toNat 0 < 0
      · rw [decide_eq_true h, decide_eq_false (by omega)]; rfl
      · rw [decide_eq_false h, decide_eq_true (by omega)]; rfl
    rw [e]
    exact List.filter_append_perm _ po
  have h2 := h1.map fun k => ns.getD k.toNat 0
  rw [map_range] at h2
  exact h2
theorem deal_sorted {ws : List (List UInt8)} {pl : Nat} {ks : List Int} {P : Int → Int → Prop} (h : ks.Pairwise P) : (deal ws pl ks).flatten.Pairwise fun a b => dig ws pl a < dig ws pl b ∨ (dig ws pl a = dig ws pl b ∧ P a b) := by
  rw [List.pairwise_flatten]
  refine ⟨fun l hl => ?_, ?_⟩
  · obtain ⟨j, _, rfl⟩ := List.mem_map.mp hl
    refine List.Pairwise.imp_of_mem ?_ (h.sublist List.filter_sublist)
    intro a b ha hb hp
    have h1 := (List.mem_filter.mp ha).2
    have h2 := (List.mem_filter.mp hb).2
    simp only [beq_iff_eq] at h1 h2
    exact .inr ⟨by omega, hp⟩
  · unfold deal
    rw [List.pairwise_map]
    refine List.pairwise_lt_range.imp ?_
    intro i j hij a ha b hb
    have h1 := (List.mem_filter.mp ha).2
    have h2 := (List.mem_filter.mp hb).2
    simp only [beq_iff_eq] at h1 h2
    exact .inl (by omega)
theorem rd_pad (n m : Nat) : rd (List.replicate m 65 ++ apw n) = n := by
  induction m with
  | zero => simpa using rd_apw n
  | succ m ih =>
    rw [List.replicate_succ, List.cons_append]
    exact ih
theorem key_eq {ns : List Int} (hsm : ∀ x ∈ ns, -4096 < x ∧ x < 4096) {k : Int} (hk : 0 ≤ k ∧ k < ns.length) :
    (ns.getD k.toNat 0).natAbs = (dig (ns.map fun x => padw x.natAbs) 0 k * 16 + dig (ns.map fun x => padw x.natAbs) 1 k) * 16 + dig (ns.map fun x => padw x.natAbs) 2 k := by
  have hi : k.toNat < ns.length := by omega
  have e : (ns.map fun x => padw x.natAbs).getD k.toNat [] = padw (ns.getD k.toNat 0).natAbs := by
    rw [List.getD_eq_getElem?_getD, List.getElem?_map, List.getD_eq_getElem?_getD, List.getElem?_eq_getElem hi]; rfl
  have h3 := (padw_all hsm (padw (ns.getD k.toNat 0).natAbs) (List.mem_map.mpr ⟨ns.getD k.toNat 0, by rw [List.getD_eq_getElem?_getD, List.getElem?_eq_getElem hi]; exact List.getElem_mem hi, rfl⟩)).1
  have hr := rd_pad (ns.getD k.toNat 0).natAbs (3 - (apw (ns.getD k.toNat 0).natAbs).length)
  unfold dig
  rw [e]
  change rd (padw (ns.getD k.toNat 0).natAbs) = _ at hr
  generalize padw (ns.getD k.toNat 0).natAbs = l at h3 hr
  match l, h3 with
  | [a, b, c], _ =>
    rw [← hr]
    simp [rd]
theorem ord3 (ws : List (List UInt8)) : ordAt ws 3 = (deal ws 0 (deal ws 1 (deal ws 2 (ordAt ws 0)).flatten).flatten).flatten := by
  simp only [ordAt]
theorem po_sorted {ns : List Int} (hsm : ∀ x ∈ ns, -4096 < x ∧ x < 4096) : (ordAt (ns.map fun x => padw x.natAbs) 3).Pairwise fun a b => (ns.getD a.toNat 0).natAbs ≤ (ns.getD b.toNat 0).natAbs := by
  have h0 : (ordAt (ns.map fun x => padw x.natAbs) 0).Pairwise fun _ _ => True := List.pairwise_of_forall fun _ _ => trivial
  have h1 := deal_sorted (ws := ns.map fun x => padw x.natAbs) (pl := 2) h0
  have h2 := deal_sorted (ws := ns.map fun x => padw x.natAbs) (pl := 1) h1
  have h3 := deal_sorted (ws := ns.map fun x => padw x.natAbs) (pl := 0) h2
  rw [← ord3] at h3
  refine List.Pairwise.imp_of_mem ?_ h3
  intro a b ha hb h
  have hka := ordAt_mem ha
  have hkb := ordAt_mem hb
  rw [List.length_map] at hka hkb
  rw [key_eq hsm hka, key_eq hsm hkb]
  have a0 := dig_lt (padw_all hsm) 0 a
  have a1 := dig_lt (padw_all hsm) 1 a
  have a2 := dig_lt (padw_all hsm) 2 a
  have b0 := dig_lt (padw_all hsm) 0 b
  have b1 := dig_lt (padw_all hsm) 1 b
  have b2 := dig_lt (padw_all hsm) 2 b
  rcases h with h | ⟨h, h | ⟨h', h | ⟨h'', _⟩⟩⟩ <;> omega
theorem plain_sorted {ns : List Int} (hsm : ∀ x ∈ ns, -4096 < x ∧ x < 4096) : (sortedOf ns).Pairwise (· ≤ ·) := by
  have hp := po_sorted hsm
  unfold sortedOf ordOf
  generalize ordAt (ns.map fun x => padw x.natAbs) 3 = po at hp
  rw [List.pairwise_map, List.pairwise_append]
  refine ⟨?_, ?_, ?_⟩
  · refine List.Pairwise.imp_of_mem ?_ ((List.pairwise_reverse.mpr hp).sublist List.filter_sublist)
    intro a b ha hb h
    have h1 := of_decide_eq_true (List.mem_filter.mp ha).2
    have h2 := of_decide_eq_true (List.mem_filter.mp hb).2
    omega
  · refine List.Pairwise.imp_of_mem ?_ (hp.sublist List.filter_sublist)
    intro a b ha hb h
    have h1 := of_decide_eq_true (List.mem_filter.mp ha).2
    have h2 := of_decide_eq_true (List.mem_filter.mp hb).2
    omega
  · intro a ha b hb
    have h1 := of_decide_eq_true (List.mem_filter.mp ha).2
    have h2 := of_decide_eq_true (List.mem_filter.mp hb).2
    omega
end Mine
end
section
open PySem PySem.W PySem.Calls PyProof.Rows
namespace Mine
theorem rowB (xs : List Int) : (4 ≤ (List.map (fun k' => if (if k' < 0 then -k' else k') < 4096 then k' else k'.fmod 4096) (List.take 7 xs) ++ [40, -3, 2, -40]).length ∧ (List.map (fun k' => if (if k' < 0 then -k' else k') < 4096 then k' else k'.fmod 4096) (List.take 7 xs) ++ [40, -3, 2, -40]).length ≤ 11) ∧
    ∀ x ∈ List.map (fun k' => if (if k' < 0 then -k' else k') < 4096 then k' else k'.fmod 4096) (List.take 7 xs) ++ [40, -3, 2, -40], -4096 < x ∧ x < 4096 := by
  refine ⟨⟨by simp, by simp; omega⟩, fun x hx => ?_⟩
  rcases List.mem_append.mp hx with h | h
  · obtain ⟨k, _, rfl⟩ := List.mem_map.mp h
    by_cases hk : (if k < 0 then -k else k) < 4096
    · rw [if_pos hk]
      split at hk <;> omega
    · rw [if_neg hk]
      have h1 := Int.fmod_nonneg_of_pos k (show (0 : Int) < 4096 by decide)
      have h2 := Int.fmod_lt_of_pos k (show (0 : Int) < 4096 by decide)
      omega
  · simp at h
    omega
theorem news7 {h₀ h : Heap} {L : Addr} {p1 p2 p3 p4 p5 p6 p7 : Addr × Obj} (N : News h₀ L h [p1, p2, p3, p4, p5, p6, p7]) : News h₀ L h [p1, p2, p6, p7] := fun p hp => N p (by
  simp only [List.mem_cons, List.not_mem_nil, or_false] at hp ⊢
  rcases hp with q | q | q | q <;> simp [q])
end Mine
end
section
open PySem PySem.W PySem.Calls PyProof.Rows
namespace Mine
theorem pad_eq {n : Nat} : (List.replicate ((3 : Int) - ((apw n).toArray.size : Int)).toNat [(65 : UInt8)]).flatten ++ apw n = padw n := by
  unfold padw
  congr 1
  rw [List.size_toArray]
  rw [show ((3 : Int) - ((apw n).length : Int)).toNat = 3 - (apw n).length by omega]
  simp
theorem news_new {h₀ h h' : Heap} {L D : Addr} {m : Str → Option Value} {o : Obj} {n : List (Addr × Obj)} (F : Fr h₀ L h m) (N : News h₀ L h n) (hk : ∀ b o, h.get? b = some o → h'.get? b = some o) (hD : h.get? D = none) (ho : h'.get? D = some o) : News h₀ L h' ((D, o) :: n) := by
  intro p hp
  rcases List.mem_cons.mp hp with rfl | hp
  · refine ⟨ho, fun q => ?_, ?_⟩
    · obtain ⟨oL, eL, _⟩ := LCg.ns_obj F.ns
      have q' : D = L := q
      rw [q', eL] at hD; cases hD
    · cases e : h₀.get? D with
      | none => rfl
      | some o => rw [F.keep _ _ e] at hD; cases hD
  · exact N.grown hk p hp
theorem news_drop2 {h₀ h : Heap} {L : Addr} {p q : Addr × Obj} {n : List (Addr × Obj)} (N : News h₀ L h (p :: q :: n)) : News h₀ L h n := fun x hx => N x (List.mem_cons_of_mem _ (List.mem_cons_of_mem _ hx))
end Mine
end
section
open PySem PySem.W PySem.Calls PyProof.Rows
namespace Mine
theorem filt_ints {p : Int → Bool} : ∀ {xs : List Int} {rs : List (Option Value)}, rs.length = xs.length → (∀ (i : Nat) r, rs[i]? = some r → ∀ k, xs[i]? = some k → if p k = true then ∃ t, r = some (.int k t) else r = none) → IntsAre (rs.filterMap id) (xs.filter p)
  | [], [], _, _ => .nil
  | [], _ :: _, h, _ => by cases h
  | _ :: _, [], h, _ => by cases h
  | x :: xs, r :: rs, hl, h => by
    have ih := filt_ints (p := p) (xs := xs) (rs := rs) (by simpa using hl) fun i r hr k hk => h (i + 1) r hr k hk
    have h0 := h 0 r rfl x rfl
    by_cases hp : p x = true
    · rw [if_pos hp] at h0
      obtain ⟨t, rfl⟩ := h0
      rw [List.filter_cons_of_pos hp]
      exact .cons x t ih
    · rw [if_neg hp] at h0
      subst h0
      rw [List.filter_cons_of_neg hp]
      exact ih
theorem ints_eq {vs : List Value} {a b : List Int} (h : IntsAre vs a) (e : a = b) : IntsAre vs b := e ▸ h
theorem news_pick {h₀ h : Heap} {L : Addr} {p1 p2 p3 p4 p5 p6 p7 p8 p9 p10 p11 : Addr × Obj} (N : News h₀ L h [p1, p2, p3, p4, p5, p6, p7, p8, p9, p10, p11]) : News h₀ L h [p1, p7, p8, p9, p10, p11] := fun p hp => N p (by
  simp only [List.mem_cons, List.not_mem_nil, or_false] at hp ⊢
  rcases hp with q | q | q | q | q | q <;> simp [q])
theorem row_at {vs : List Value} {ns : List Int} (h : IntsAre vs ns) {j : Nat} (hj : j < ns.length) : ∃ t, vs[j]? = some (.int (ns.getD j 0) t) := by
  have hl := h.length
  obtain ⟨k, t, e, hk⟩ := IntsAre.at h j (vs[j]'(by omega)) (by simp)
  refine ⟨t, ?_⟩
  rw [List.getD_eq_getElem?_getD, hk, Option.getD_some, ← e]; simp
end Mine
end
section
open PySem PySem.W PySem.Calls PyProof.Rows
namespace Mine
theorem len_row {prog : Program} {w : World} {A : Around} {E : Value → Shared → Prop} {s : Shared} {Q : Value → Shared → Prop} {l : Addr} {vs : List Value} {n : Nat} (hl : s.heap.IsList l vs.toArray) (e : vs.length = n) (hn : n ≤ 11)
    (h : Q (.int n (s.toks + 1)) { s with toks := s.toks + 1 + 1 }) : wpAny (model prog w) A (call (.builtin "len") [.ref l]) Q E s := by
  refine len_list hl (by rw [List.size_toArray]; omega) ?_
  rw [List.size_toArray, e]; exact h
end Mine
end
section
open PySem PySem.W PySem.Calls PyProof.Rows
namespace Mine
theorem news_drop1 {h₀ h : Heap} {L : Addr} {p : Addr × Obj} {n : List (Addr × Obj)} (N : News h₀ L h (p :: n)) : News h₀ L h n := fun x hx => N x (List.mem_cons_of_mem _ hx)
end Mine
end
section
open PySem PySem.W PySem.Calls PyProof.Rows
namespace Mine
theorem pick_mid (vs : List Value) (h : 2 ≤ vs.length) : (slicePick vs.toArray (some 1) (some (-1)) none).toList = (vs.drop 1).take (vs.length - 2) := by
  have e : sliceBounds (some 1) (some (-1)) none vs.toArray.size = (((1 : Nat) : Int), ((vs.toArray.size - 1 : Nat) : Int), 1) := by
    simp only [sliceBounds, Option.getD_none, show (1 : Int) > 0 by decide, if_true, if_neg (show ¬ ((1 : Int) < 0) by decide), if_pos (show (-1 : Int) < 0 by decide), List.size_toArray]
    congr 1
    · omega
    · congr 1
      omega
  rw [kmk_pick_nat _ e, List.size_toArray, Nat.sub_sub]
end Mine
end
section
open PySem PySem.W PySem.Calls PyProof.Rows
namespace Mine
theorem ord_at {ov rvs : List Value} {ord ns zs : List Int} (hIo : IntsAre ov ord) (hIr : IntsAre rvs ns) (hom : ∀ k ∈ ord, 0 ≤ k ∧ k < ns.length) (hol : ord.length = ns.length)
    (hzz : ∀ i : Nat, zs[i]? = ord[i]?.map fun k => ns.getD k.toNat 0) {j : Nat} (hj : j < ns.length) : ∃ k t t', ov[j]? = some (.int k t) ∧ 0 ≤ k ∧ k < ns.length ∧ rvs[k.toNat]? = some (.int (zs.getD j 0) t') := by
  have h1 : ord[j]? = some (ord[j]'(by omega)) := by simp
  have hb := hom _ (List.getElem_mem (by omega : j < ord.length))
  obtain ⟨t, ht⟩ := row_at hIo (j := j) (by omega)
  obtain ⟨t', ht'⟩ := row_at hIr (j := (ord[j]'(by omega)).toNat) (by omega)
  refine ⟨ord[j]'(by omega), t, t', ?_, hb.1, hb.2, ?_⟩
  · rw [ht, List.getD_eq_getElem?_getD, h1]; rfl
  · rw [ht', List.getD_eq_getElem?_getD (l := zs), hzz, h1]; rfl
end Mine
end
section
open PySem PySem.W PySem.Calls PyProof.Rows
namespace Mine
def MedV (zs : List Int) (v : Value) : Prop := (zs.length % 2 = 0 ∧ ∃ t, v = .float (quo (zs.getD (zs.length / 2 - 1) 0 + zs.getD (zs.length / 2) 0) 2) t) ∨ (zs.length % 2 = 1 ∧ ∃ t, v = .int (zs.getD (zs.length / 2) 0) t)
def TwV (c : Int) (v : Value) : Prop := (∃ t, v = .float (Float64.ofInt c) t) ∨ ∃ t, v = .int c t
theorem c_medV {w : World} {e : Env} {s : Shared} {R : Result → Shared → Prop} {loose : List Str} {mean : ExcName → Option Value} {mg mb : Str → Option Value}
   (T : Top hd.view_39 loose mean mg mb s.heap) (X : (hd.heap_39 w.params).In s.heap) {a : Addr} {vs : List Value} {ns zs : List Int} (hl : s.heap.IsList a vs.toArray) (hi : IntsAre vs ns) (h4 : 4 ≤ ns.length) (h11 : ns.length ≤ 11)
   (hsm : ∀ x ∈ ns, -4096 < x ∧ x < 4096) (hp : zs.Perm ns) (hs : zs.Pairwise (· ≤ ·))
   (hR : ∀ h' tk v, MedV zs v → (∀ b o, s.heap.get? b = some o → h'.get? b = some o) → R (.ok (.ret v)) { s with heap := h', toks := tk }) :
   codeAny (model PySem.Challenge.rw_nb0141_01.row.prog w) (callerA.deeper e) (.call (.ref 34) ⟨[.ref a], []⟩) R s :=
  c_med T X hl hi h4 h11 hsm hp hs (fun h' tk t he hk => hR h' tk _ (.inl ⟨he, t, rfl⟩) hk) (fun h' tk t ho hk => hR h' tk _ (.inr ⟨ho, t, rfl⟩) hk)
section
variable {prog : Program} {w : World} {A : Around} {E : Value → Shared → Prop} {s : Shared} {Q : Value → Shared → Prop} {zs : List Int} {v u : Value} {t : Tok}
theorem two_mid {n : Nat} (hn : zs.length = n) (hb : ∀ x ∈ zs, -4096 < x ∧ x < 4096) (h4 : 4 ≤ n) (hv : MedV zs v) (h : ∀ u tk, TwV (zs.getD ((n - 1) / 2) 0 + zs.getD (n / 2) 0) u → Q u { s with toks := tk }) :
    wpAny (model prog w) A (binaryOp .Mult (.int 2 t) v) Q E s := by
  subst hn
  have b1 := getD_small hb ((zs.length - 1) / 2)
  have b2 := getD_small hb (zs.length / 2)
  rcases hv with ⟨he, t', rfl⟩ | ⟨ho, t', rfl⟩
  · refine mul_if_fits (Nat.lt_of_lt_of_le (show (2 : Int).natAbs < 2 ^ 2 by decide) (Nat.pow_le_pow_right (by decide) (by omega))) ?_
    rw [show zs.length / 2 - 1 = (zs.length - 1) / 2 by omega, half_twice (by omega)]
    exact h _ _ (.inl ⟨_, rfl⟩)
  · refine mul_int ?_ (IntMulOk.of_left (intBits_le_64 (by omega) (by omega)))
    have e : (zs.length - 1) / 2 = zs.length / 2 := by omega
    rw [e] at h
    exact h _ _ (.inr ⟨_, congrArg (fun q => Value.int q _) (Int.two_mul _)⟩)
theorem ne_mid {c : Int} (hc : c.natAbs < 2 ^ 53) (hu : TwV c u) (h : Q (.bool false) s) : wpAny (model prog w) A (compareOp .NotEq u (.int c t)) Q E s := by
  rcases hu with ⟨t', rfl⟩ | ⟨t', rfl⟩
  · exact ne_fi (by rw [fl_cmp hc]; exact h)
  · exact ne_int (by rw [bne_self_eq_false]; exact h)
theorem inst_mid {n : Nat} (hn : zs.length = n) (hv : MedV zs v) (h : ∀ tk, Q (.bool (decide (n % 2 = 0))) { s with toks := tk }) : wpAny (model prog w) A (call (.builtin "isinstance") [v, .type "float"]) Q E s := by
  subst hn
  rcases hv with ⟨he, t', rfl⟩ | ⟨ho, t', rfl⟩
  · refine IsiPair.float_float ?_
    have := h s.toks
    rw [decide_eq_true he] at this; exact this
  · refine IsiPair.int_float ?_
    have := h (s.toks + 1)
    rw [decide_eq_false (by omega)] at this; exact this
end
end Mine
end
section
open PySem PySem.W PySem.Calls PyProof.Rows
namespace Mine
theorem truthy_eq {M : Model} {A : Around} {E : Value → Shared → Prop} {s : Shared} {Q : Bool → Shared → Prop} {b : Bool} (e : b = false) (h : Q false s) : wpAny M A (truthy (.bool b)) Q E s := e ▸ wpAny_truthy_bool h
theorem even_same {n : Nat} : (decide (n % 2 = 0) != ((n : Int).fmod 2 == 0)) = false := by
  rw [fmod2]
  rcases Nat.mod_two_eq_zero_or_one n with h | h <;> simp [h]
end Mine
end
section
open PySem PySem.W PySem.Calls PyProof.Rows
namespace Mine
open PyProof.Rows.LCg PyProof.Rows.LCt
section
variable {prog : Program} {w : World} {A : Around} {E : Value → Shared → Prop} {s : Shared} {h₀ : Heap} {L : Addr} {m : Str → Option Value} {env : Env}
/-- a comprehension with one test over a tuple of the ledger, of which no item passes the test -/
def TupSrc (prog : Program) (w : World) (A : Around) (h₀ : Heap) (L : Addr) (m : Str → Option Value) (env : Env) (ct : Expr) (x : Str) (scope : Scope) (cl : List (Str × Addr)) (Q : Value → Shared → Prop) (xv : Value) (s₁ : Shared) : Prop :=
  ∃ (ax : Addr) (its : Array Value) (k : Nat) (news : List (Addr × Obj)), xv = .ref ax ∧ A.handled = none ∧ Fr h₀ L s₁.heap m ∧ News h₀ L s₁.heap news ∧ (ax, ({ cls := .type "tuple", data := .seq its k } : Obj)) ∈ news ∧ its.size ≤ sizeLine ∧
    (∀ (i : Nat) v I oI C oC D m₂ h tk (E' : Value → Shared → Prop) (Q' : Bool → Shared → Prop), its[i]? = some v → NsObj oC m₂ → m₂ x = some v → Fr h₀ L h m → News h₀ L h ((I, oI) :: (C, oC) :: (D, lst []) :: news) →
      (∀ h' tk', Fr h₀ L h' m → News h₀ L h' ((I, oI) :: (C, oC) :: (D, lst []) :: news) → Q' false { s₁ with heap := h', toks := tk' }) →
      wpAny (model prog w) A (isTrue ct (compEnvC scope cl C env) (eval ct (compEnvC scope cl C env))) Q' E' { s₁ with heap := h, toks := tk }) ∧
    (∀ D h tk, Fr h₀ L h m → News h₀ L h ((D, W.listOf #[] 0) :: news) → Q (.ref D) { s₁ with heap := h, toks := tk })
theorem tup_st {ax I : Addr} {its : Array Value} {o' : Obj} (ho : o'.cls = .type "tuple") (hd : ∃ k, o'.data = .seq its k) : ∀ i (h h' : Heap) (o : Obj) (nw : List (Addr × Obj)), (h.IsTupleIter I ax i ∧ h.IsTuple ax its) → h.get? I = some o → h'.get? I = some o → (∀ b o, h₀.get? b = some o → h'.get? b = some o) → News h₀ L h' nw → (ax, o') ∈ nw → (h'.IsTupleIter I ax i ∧ h'.IsTuple ax its) :=
  fun i h h' o nw st e e' k N S => ⟨by obtain ⟨o', q, r⟩ := st.1; rw [e] at q; cases q; exact ⟨o, e', r⟩, ⟨o', (N _ S).1, ho, hd⟩⟩
theorem ListComp_Tup {ct elt iter : Expr} {x : Str} {px : Pos} {scope : Scope} {cl : List (Str × Addr)} {pos : Pos} {Q : Value → Shared → Prop} (F₀ : Fr h₀ L s.heap m)
    (hclos : closureFor scope env = pure cl) (hcell : ∀ y ∈ scope.names, y.2 ≠ .cell) (hkind : scope.kind = .function)
    (hnames : ∀ y ∈ scope.names, y.2 = .local → scope.names.lookup y.1 = some .local) (hx : scope.names.lookup x = some .local)
    (h : wpAny (model prog w) A (eval iter env) (TupSrc prog w A h₀ L m env ct x scope cl Q) E s)
    (hs : ∀ x, foldedSetIterable iter env x = pure x := by intro _; rfl) :
    wpAny (model prog w) A (eval (.ListComp elt [⟨.Name x px, iter, [ct], 0⟩] scope pos) env) Q E s := by
  rw [eval_ListComp]
  refine wpAny_comprehension_free (use := none) rfl hs hclos hkind hnames (wpAny_mono h (fun xv s₁ h₁ => ?_) fun _ _ e => e)
  obtain ⟨ax, its, k, news, rfl, hh, F, N, hm, hsz, R, hfin⟩ := h₁
  have hl : s₁.heap.IsTuple ax its := ⟨_, (N _ hm).1, rfl, _, rfl⟩
  have hlt : ax < s₁.heap.objs.size := Heap.lt_size (N _ hm).1
  refine wpAny_pyIter_tuple hl ?_
  have up : ∀ b o, s₁.heap.get? b = some o → (s₁.heap.push { cls := .type "tuple_iterator", data := .fields #[.ref ax, .int 0 0] }).get? b = some o := fun b o e => Heap.get?_push_of_some _ e
  refine block_T (S := fun nw => (ax, ({ cls := .type "tuple", data := .seq its k } : Obj)) ∈ nw) (Fin := fun ys nw => ys = [] ∧ nw = news) (Walks.tuple hh s₁.heap.objs.size ax (Nat.ne_of_lt hlt) its) hsz (fun i h st => by obtain ⟨o, e, _⟩ := st.1; exact ⟨o, e⟩) (tup_st rfl ⟨_, rfl⟩) hcell hkind hx ⟨⟨_, Heap.get?_push_size _ rfl, rfl, rfl⟩, ⟨_, up _ _ (N _ hm).1, rfl, _, rfl⟩⟩ (fun b hb => ?_)
    (F.keeps up) (N.grown up) (Nat.ne_of_lt F.ns.lt) (next_is_new F) (fun p hp => Nat.ne_of_lt (Heap.lt_size (N p hp).1)) hm ?_ ?_
  · show b < (s₁.heap.push _).objs.size
    rw [Heap.size_push]
    rcases List.mem_cons.mp hb with rfl | hb
    · exact Nat.lt_succ_self _
    · rw [List.mem_singleton.mp hb]; exact Nat.lt_succ_of_lt hlt
  · refine compT_inv (fun _ ys nw => ys = [] ∧ nw = news) ⟨rfl, rfl⟩ ?_ (fun ys nw e => e)
    rintro i v I oI C oC D m₂ ys nw h tk E' hi hv ⟨rfl, rfl⟩ hC hx F' N' off ne
    refine R i v I oI C oC D m₂ h tk E' _ hv hC hx F' N' fun h' tk' F2 N2 => ?_
    rw [if_neg Bool.false_ne_true]
    exact ⟨h', tk', nw, rfl, F2, N2, off, hm, rfl, rfl⟩
  · rintro D C h tk m' ys news' F' N' o1 hn hC₀ hD₀ hCL hDL hCD offC ⟨rfl, rfl⟩
    refine ⟨m', hn, fun h'' hs'' => hfin D h'' tk (F'.change hs'' hCL hC₀) (fun p hp => ?_)⟩
    refine ⟨hs''.extBut _ _ ?_ (N' p hp).1, (N' p hp).2⟩
    rcases List.mem_cons.mp hp with rfl | hp
    · exact Ne.symm hCD
    · exact offC p hp
end
end Mine
end
section
open PySem PySem.W PySem.Calls PyProof.Rows
namespace Mine
theorem c_refAny {w : World} {env : Env} {s : Shared} {R : Result → Shared → Prop} {loose : List Str} {mean : ExcName → Option Value} {mg mb : Str → Option Value} {h₀ : Heap} {L : Addr} {m : Str → Option Value} {news : List (Addr × Obj)} {v : Value}
   (B : Below callerA h₀ [] h₀) (F₀ : Fr h₀ L s.heap m) (T₀ : Top hd.view_39 loose mean mg mb h₀) (hf : env.frame = some L) (hke : env.scope.kind = .function) (N₀ : News h₀ L s.heap news) (X₀ : (hd.heap_39 w.params).In h₀)
   (hv : v = .ref 41 ∨ v = .ref 48 ∨ v = .ref 34 ∨ v = .ref 56)
   (hR : ∀ h' tk, Fr h₀ L h' m → News h₀ L h' news → R (.ok (.ret (.bool true))) { s with heap := h', toks := tk }) :
   codeAny (model PySem.Challenge.rw_nb0141_01.row.prog w) (callerA.deeper env) (.call (.ref 82) ⟨[v], []⟩) R s := by
  rcases hv with rfl | rfl | rfl | rfl
  · exact c_ref41 B F₀ T₀ hf hke N₀ X₀ hR
  · exact c_ref48 B F₀ T₀ hf hke N₀ X₀ hR
  · exact c_ref34 B F₀ T₀ hf hke N₀ X₀ hR
  · exact c_ref56 B F₀ T₀ hf hke N₀ X₀ hR
end Mine
end
set_option maxRecDepth 100000 in
set_option maxHeartbeats 8000000 in
theorem PySem.Challenge.cw_nb0141_01_holds : PySem.Challenge.rw_nb0141_01.Holds := by
  open PySem.Calls Mine in
  exact Mine.hd (by
    w_strict (
      k_go0
      all_goals try k_fold
      rename Fr _ _ _ _ => F0
      have F1 : Fr _ _ _ (fun y => if y = Str.ofString "script" then some (.ref _) else none) := F0
      clear F0
      rename Frag.In _ _ => XX
      rename List Int => xs
      rename Below _ _ _ _ => BB
      rename Top _ _ _ _ _ _ => TT
      iterate 46 walk1
      refine flat_st (s₁ := ‹Shared›) (h := _) (tk := _) rfl fun _ => ?_
      iterate 8 walk1
      rename Fr _ _ _ _ => F
      rename News _ _ _ _ => N
      rename IntsAre _ _ => hIr
      rename_i r rvs _ _ _ cr hcr _
      refine' kmk_slice_ints (lo := none) (hi := none) F N ?l .none .none hIr (kmk_all hIr) rfl ?_ ?s ?t ?z
      case l => kmk_list
      case s => with_unfolding_all rfl
      case t => kmk_pure
      case z => kmk_size
      clear F N
      intro a avs _ F N _ hIa _ _
      iterate 2 walk1
      rename Fr _ _ _ _ => F
      rename News _ _ _ _ => N0
      refine flat_st (s₁ := ‹Shared›) (h := _) (tk := _) rfl fun _ => ?_
      rename Obj.data _ = Data.cell (bindC _ _ _ _) => hcz; clear hcz
      rename Obj.data _ = Data.cell (bindC _ _ _ _) => hcz
      have hcw : Obj.data _ = Data.cell none := hcz
      clear hcz
      have N := news7 N0
      clear N0
      have hB := rowB xs
      generalize List.map (fun k' => if (if k' < 0 then -k' else k') < 4096 then k' else k'.fmod 4096) (List.take 7 xs) ++ [40, -3, 2, -40] = ns at hB hIr hIa
      obtain ⟨⟨h4, h11⟩, hsm⟩ := hB
      refine wpAny_Assign_Name ?_
      refine' LCg.ListComp_U (cl := []) F ?hcl ?hce ?hkd ?hna ?hxx ?_
      case hcl => rfl
      case hce => decide
      case hkd => rfl
      case hna => decide
      case hxx => rfl
      walk1
      refine map_src (vs := rvs) rfl F N (by k_mem) (by have := hIr.length; rw [sizeLine_eq]; omega) (fun i y => ∃ t, y = .bytes (apw (ns.getD i 0).natAbs).toArray t) ?turn ?fin
      case turn =>
        clear F N
        intro i v I oI C oC D m₂ ys h tk E' Q' hv hC hx F N hQ
        obtain ⟨x, t, rfl, hx'⟩ := IntsAre.at hIr i v hv
        iterate 7 walk1
        have hb := hsm x (List.mem_of_getElem? hx')
        refine ⟨XX.keeps F.keep, wpAny_call (c_int2ap (TT.keeps F.keep) (XX.keeps F.keep) hb.1 hb.2 fun h' tk' t' hk => ?_)⟩
        exact hQ _ _ _ hk ⟨t', by rw [List.getD_eq_getElem?_getD, hx']; rfl⟩
      case fin =>
        clear F N
        intro bvs hbl hbG wa h tk F N
        walk1
        rename Fr _ _ _ _ => F; rename News _ _ _ _ => N
        revert F N; rename Fr _ _ _ _ => F; rename News _ _ _ _ => N; clear F N; intro F N
        rename_i h5 cw hcw2
        dsimp only [List.cons_append, List.nil_append] at N
        have hrl := hIr.length
        have hbw : Are IsBy bvs (ns.map fun x => apw x.natAbs) := are_of (by rw [List.length_map]; omega) fun i y hy z hz => by
          obtain ⟨t, rfl⟩ := hbG i y hy
          rw [List.getElem?_map] at hz
          obtain ⟨x, hx, rfl⟩ := Option.map_eq_some_iff.mp hz
          exact ⟨t, by rw [List.getD_eq_getElem?_getD, hx]; rfl⟩
        clear hbG
        refine flat_st (s₁ := ‹Shared›) (h := _) (tk := _) rfl fun tk4 => ?_
        iterate 3 walk1
        refine' LCg.ListComp_U (cl := []) F ?hcl ?hce ?hkd ?hna ?hxx ?_
        case hcl => rfl
        case hce => decide
        case hkd => rfl
        case hna => decide
        case hxx => rfl
        walk1
        refine map_src (vs := bvs) rfl F N (by k_mem) (by rw [sizeLine_eq]; omega) (fun i y => ∀ z, (ns.map fun x => (x.natAbs : Int))[i]? = some z → IsI y z) ?turn ?fin
        case turn =>
          clear F N
          intro i v I oI C oC D m₂ ys h tk E' Q' hv hC hx F N hQ
          have hi : i < ns.length := by have := (List.getElem?_eq_some_iff.mp hv).1; omega
          have hxi : ns[i]? = some ns[i] := by simp
          obtain ⟨t, rfl⟩ := hbw.2 i v (apw (ns[i]).natAbs) hv (by rw [List.getElem?_map, hxi]; rfl)
          have hb := hsm ns[i] (List.getElem_mem hi)
          iterate 7 walk1
          refine ⟨XX.keeps F.keep, wpAny_call (c_read (TT.keeps F.keep) (XX.keeps F.keep) (apw_len _ 3 (by omega)) (apw_ok _) (apw_head _) fun h' tk' t' hk => ?_)⟩
          refine hQ _ _ _ hk fun z hz => ⟨t', ?_⟩
          rw [List.getElem?_map, hxi] at hz
          cases hz
          rw [rd_apw]
        case fin =>
          clear F N
          intro qvs hql hqG qa h6 tk6 F N
          have hIq : IntsAre qvs (ns.map fun x => (x.natAbs : Int)) := ints_of_are (are_of (by rw [List.length_map]; omega) hqG)
          clear hqG
          refine' LCg.ListComp_U (cl := []) F ?hcl ?hce ?hkd ?hna ?hxx ?_
          case hcl => rfl
          case hce => decide
          case hkd => rfl
          case hna => decide
          case hxx => rfl
          walk1
          refine map_src (vs := rvs) rfl F N (by k_mem) (by rw [sizeLine_eq]; omega) (fun i y => ∀ z, (ns.map fun x => (x.natAbs : Int))[i]? = some z → IsI y z) ?turn ?fin
          case turn =>
            clear F N
            intro i v I oI C oC D m₂ ys h tk E' Q' hv hC hx F N hQ
            obtain ⟨x, t, rfl, hx'⟩ := IntsAre.at hIr i v hv
            iterate 7 walk1
            have ea : (x.natAbs : Int) = (if x < 0 then -x else x) := by split <;> omega
            refine hQ _ _ _ (fun _ _ e => e) fun z hz => ?_
            rw [List.getElem?_map, hx'] at hz
            cases hz
            exact ⟨_, congrArg (fun q => Value.int q _) ea.symm⟩
          case fin =>
            clear F N
            intro pvs hpl hpG pa h7 tk7 F N
            have hIp : IntsAre pvs (ns.map fun x => (x.natAbs : Int)) := ints_of_are (are_of (by rw [List.length_map]; omega) hpG)
            clear hpG
            iterate 3 walk1
            replace N := news_drop2 N
            clear hIp hIq hpl hql
            refine flat_st (s₁ := ‹Shared›) (h := _) (tk := _) rfl fun tk8 => ?_
            iterate 7 walk1
            refine' LCg.ListComp_U (cl := []) F ?hcl ?hce ?hkd ?hna ?hxx ?_
            case hcl => rfl
            case hce => decide
            case hkd => rfl
            case hna => decide
            case hxx => rfl
            walk1
            refine map_src (vs := bvs) rfl F N (by k_mem) (by rw [sizeLine_eq]; omega) (fun i y => ∀ z, (ns.map fun x => padw x.natAbs)[i]? = some z → IsBy y z) ?turn ?fin
            case turn =>
              clear F N
              intro i v I oI C oC D m₂ ys h tk E' Q' hv hC hx F N hQ
              have hi : i < ns.length := by have := (List.getElem?_eq_some_iff.mp hv).1; omega
              have hxi : ns[i]? = some ns[i] := by simp
              obtain ⟨t, rfl⟩ := hbw.2 i v (apw (ns[i]).natAbs) hv (by rw [List.getElem?_map, hxi]; rfl)
              have hb := hsm ns[i] (List.getElem_mem hi)
              have hl3 : (apw (ns[i]).natAbs).length ≤ 3 := apw_len _ 3 (by omega)
              iterate 11 walk1
              have hs3 : (apw (ns[i]).natAbs).toArray.size = (apw (ns[i]).natAbs).length := List.size_toArray ..
              refine len_bytes (by omega) ?_
              walk1
              refine bytes_mul_any (by simp) (by omega) (by omega) (by decide) fun t1 k1 => ?_
              walk1
              refine bytes_add_K (by rw [hs3]; simp; omega) rfl fun t2 k2 => ?_
              refine hQ _ _ _ (fun _ _ e => e) fun z hz => ⟨t2, ?_⟩
              rw [List.getElem?_map, hxi] at hz
              cases hz
              rw [pad_eq]
            case fin =>
              clear F N
              intro uvs hul huG ua h8 tk8 F N
              have hIu : Are IsBy uvs (ns.map fun x => padw x.natAbs) := are_of (by rw [List.length_map]; omega) huG
              clear huG
              iterate 3 walk1
              refine ⟨XX.keeps F.keep, wpAny_call (c_piled (TT.keeps F.keep) (XX.keeps F.keep) ⟨_, (N _ List.mem_cons_self).1, rfl, _, rfl⟩ hIu (by rw [List.length_map]; exact h11) (padw_all hsm) fun h9 tk9 pla plv plk hk9 hD9 hG9 hIpl => ?_)⟩
              replace N := news_new F N hk9 hD9 hG9
              replace F := F.keeps hk9
              walk1
              rename Fr _ _ _ _ => F; rename News _ _ _ _ => N
              refine flat_st (s₁ := ‹Shared›) (h := _) (tk := _) rfl fun tk10 => ?_
              iterate 3 walk1
              have hpo : ∀ k ∈ ordAt (ns.map fun x => padw x.natAbs) 3, 0 ≤ k ∧ k < ns.length := fun k hk => by
                have := ordAt_mem hk
                rw [List.length_map] at this
                omega
              have hpol : (ordAt (ns.map fun x => padw x.natAbs) 3).length = ns.length := by rw [ordAt_length (padw_all hsm), List.length_map]
              have hpoe : (ordAt (ns.map fun x => padw x.natAbs) 3).reverse.filter (fun k => decide (ns.getD k.toNat 0 < 0)) ++ (ordAt (ns.map fun x => padw x.natAbs) 3).filter (fun k => decide (ns.getD k.toNat 0 ≥ 0)) = ordOf ns := rfl
              generalize ordAt (ns.map fun x => padw x.natAbs) 3 = po at hIpl hpo hpol hpoe
              have hpll := hIpl.length
              refine' LCt.ListComp_T F ?hcl ?hce ?hkd ?hna ?hxx ?_
              case hcl => rfl
              case hce => decide
              case hkd => rfl
              case hna => decide
              case hxx => rfl
              iterate 9 walk1
              refine' krv_ints F N ?l (.int _ _) hIpl ?_ ?s ?t ?z
              case l => kmk_list
              case s => with_unfolding_all rfl
              case t => kmk_pure
              case z => rw [List.size_toArray, sizeLine_eq]; omega
              clear F N
              intro rla rlv _ F N _ hIrl _
              refine test_src (vs := rlv) rfl F N (by k_mem) (by have := hIrl.length; rw [List.length_reverse] at this; rw [sizeLine_eq]; omega) (fun i r => ∀ k, po.reverse[i]? = some k → if decide (ns.getD k.toNat 0 < 0) = true then ∃ t, r = some (.int k t) else r = none) ?turn ?fin
              case turn =>
                clear F N
                intro i v I oI C oC D m₂ ys h tk E' Q' Q0 hv hC hx F N hQ hQ0
                obtain ⟨k, t, rfl, hk⟩ := IntsAre.at hIrl i v hv
                have hkb := hpo k (List.mem_reverse.mp (List.mem_of_getElem? hk))
                obtain ⟨tt, hvv⟩ := row_at hIr (j := k.toNat) (by omega)
                iterate 4 walk1
                refine item_litK (l := r) (vs := rvs) (by kmk_list) hkb.1 (by omega) hvv ?_
                iterate 3 walk1
                refine ite_two (fun hc => ?_) (fun hc => ?_)
                · walk1
                  refine hQ _ _ _ (fun _ _ e => e) fun k' hk' => ?_
                  rw [hk] at hk'; cases hk'
                  rw [if_pos hc]; exact ⟨t, rfl⟩
                · refine hQ0 _ _ (fun _ _ e => e) fun k' hk' => ?_
                  rw [hk] at hk'; cases hk'
                  rw [if_neg hc]
              case fin =>
                clear F N
                intro rs1 hr1l hr1 na h11a tk11 F N
                have hIn := filt_ints (p := fun k => decide (ns.getD k.toNat 0 < 0)) (by rw [hr1l, hIrl.length]) hr1
                clear hr1 hr1l
                generalize rs1.filterMap id = nv at N hIn
                refine' LCt.ListComp_T F ?hcl ?hce ?hkd ?hna ?hxx ?_
                case hcl => rfl
                case hce => decide
                case hkd => rfl
                case hna => decide
                case hxx => rfl
                walk1
                refine test_src (vs := plv) rfl F N (by k_mem) (by rw [sizeLine_eq]; omega) (fun i r => ∀ k, po[i]? = some k → if decide (ns.getD k.toNat 0 ≥ 0) = true then ∃ t, r = some (.int k t) else r = none) ?turn ?fin
                case turn =>
                  clear F N
                  intro i v I oI C oC D m₂ ys h tk E' Q' Q0 hv hC hx F N hQ hQ0
                  obtain ⟨k, t, rfl, hk⟩ := IntsAre.at hIpl i v hv
                  have hkb := hpo k (List.mem_of_getElem? hk)
                  obtain ⟨tt, hvv⟩ := row_at hIr (j := k.toNat) (by omega)
                  iterate 4 walk1
                  refine item_litK (l := r) (vs := rvs) (by kmk_list) hkb.1 (by omega) hvv ?_
                  iterate 3 walk1
                  refine ite_two (fun hc => ?_) (fun hc => ?_)
                  · walk1
                    refine hQ _ _ _ (fun _ _ e => e) fun k' hk' => ?_
                    rw [hk] at hk'; cases hk'
                    rw [if_pos hc]; exact ⟨t, rfl⟩
                  · refine hQ0 _ _ (fun _ _ e => e) fun k' hk' => ?_
                    rw [hk] at hk'; cases hk'
                    rw [if_neg hc]
                case fin =>
                  clear F N
                  intro rs2 hr2l hr2 ppa h12 tk12 F N
                  have hIp := filt_ints (p := fun k => decide (ns.getD k.toNat 0 ≥ 0)) (by rw [hr2l, hIpl.length]) hr2
                  clear hr2 hr2l
                  generalize rs2.filterMap id = pv at N hIp
                  refine flat_st (s₁ := ‹Shared›) (h := _) (tk := _) rfl fun tk13 => ?_
                  have hnl := List.length_filter_le (fun k => decide (ns.getD k.toNat 0 < 0)) po.reverse
                  have hpl2 := List.length_filter_le (fun k => decide (ns.getD k.toNat 0 ≥ 0)) po
                  rw [List.length_reverse] at hnl
                  refine' kmk_add_ints F N ?qla ?qlb hIn hIp ?_ ?qlz
                  case qla => kmk_list
                  case qlb => kmk_list
                  case qlz =>
                    have e1 := hIn.length
                    have e2 := hIp.length
                    simp only [sizeLine_eq]
                    omega
                  clear F N
                  intro oa ov _ F N _ hIo
                  walk1
                  rename Fr _ _ _ _ => F; rename News _ _ _ _ => N
                  replace N := news_pick N
                  refine flat_st (s₁ := ‹Shared›) (h := _) (tk := _) rfl fun tk14 => ?_
                  replace hIo := ints_eq hIo hpoe
                  have hom := plain_mem hsm
                  have hpe := plain_perm hsm
                  have hso := plain_sorted hsm
                  have hol : (ordOf ns).length = ns.length := by have := hpe.length_eq; rw [sortedOf, List.length_map] at this; exact this
                  have hzz : ∀ i : Nat, (sortedOf ns)[i]? = (ordOf ns)[i]?.map fun k => ns.getD k.toNat 0 := fun i => by rw [sortedOf, List.getElem?_map]
                  generalize sortedOf ns = zs at hpe hso hzz
                  generalize ordOf ns = ord at hIo hom hol hzz
                  have hzl := hpe.length_eq
                  clear hIn hIp hIrl hIpl hnl hpl2 hpoe hpo hpol hIu
                  iterate 8 walk1
                  refine len_row (vs := rvs) (by kmk_list) hrl h11 ?_
                  walk1
                  rename Fr _ _ _ _ => F; rename News _ _ _ _ => N
                  refine flat_st (s₁ := ‹Shared›) (h := _) (tk := _) rfl fun tk15 => ?_
                  iterate 14 walk1
                  refine flat_st (s₁ := ‹Shared›) (h := _) (tk := _) rfl fun tk16 => ?_
                  iterate 3 walk1
                  refine wpAny_call (c_exc (TT.keeps F.keep) (XX.keeps F.keep) (a := r) (vs := rvs) (by kmk_list) hIr h4 h11 hsm hpe hso rfl fun h17 tk17 ca cv ck hk17 hD17 hG17 hcv => ?_)
                  replace N := news_new F N hk17 hD17 hG17
                  replace F := F.keeps hk17
                  walk1
                  rename Fr _ _ _ _ => F; rename News _ _ _ _ => N
                  refine flat_st (s₁ := ‹Shared›) (h := _) (tk := _) rfl fun tk18 => ?_
                  have hcl := hcv.1
                  iterate 3 walk1
                  refine' LCt.ListComp_T F ?hcl ?hce ?hkd ?hna ?hxx ?_
                  case hcl => rfl
                  case hce => decide
                  case hkd => rfl
                  case hna => decide
                  case hxx => rfl
                  walk1
                  refine test_src (vs := cv) rfl F N (by k_mem) (by rw [sizeLine_eq]; omega) (fun i r => r = none) ?turn ?fin
                  case turn =>
                    clear F N
                    intro i v I oI C oC D m₂ ys h tk E' Q' Q0 hv hC hx F N hQ hQ0
                    have hi : i < zs.length := by have := (List.getElem?_eq_some_iff.mp hv).1; omega
                    obtain ⟨t, ht0, rfl⟩ := hcv.2 i v zs[i] hv (by simp)
                    iterate 12 walk1
                    refine ite_two (fun hc => ?_) (fun hc => ?_)
                    · exact absurd hc (by decide)
                    · exact hQ0 _ _ (fun _ _ e => e) rfl
                  case fin =>
                    clear F N
                    intro rs3 hr3l hr3 ea h19 tk19 F N
                    have he3 : rs3.filterMap id = [] := by
                      rw [List.filterMap_eq_nil_iff]
                      intro q hq
                      obtain ⟨i, hi⟩ := List.getElem?_of_mem hq
                      exact hr3 i q hi
                    rw [he3] at N
                    iterate 3 walk1
                    rename Fr _ _ _ _ => F; rename News _ _ _ _ => N
                    refine ne_lists (vs := []) (us := []) (by kmk_list) (by kmk_list) rfl (by k_dflt ke_room) (fun i v u h1 => by simp at h1) ?_
                    iterate 4 walk1
                    replace N := news_drop2 N
                    refine flat_st (s₁ := ‹Shared›) (h := _) (tk := _) rfl fun tk20 => ?_
                    have hov := hIo.length
                    have hzb : ∀ x ∈ zs, -4096 < x ∧ x < 4096 := fun x hx => hsm x (hpe.mem_iff.mp hx)
                    iterate 5 walk1
                    refine' LCg.ListComp_U F ?hcl ?hce ?hkd ?hna ?hxx ?_
                    case hcl => rfl
                    case hce => decide
                    case hkd => rfl
                    case hna => decide
                    case hxx => rfl
                    walk1
                    refine map_src (vs := ov) rfl F N (by k_mem) (by rw [sizeLine_eq]; omega) (fun i y => ∀ z, zs[i]? = some z → IsI y z) ?turn ?fin
                    case turn =>
                      clear F N
                      intro i v I oI C oC D m₂ ys h tk E' Q' hv hC hx F N hQ
                      obtain ⟨k, t, rfl, hk⟩ := IntsAre.at hIo i v hv
                      have hkb := hom k (List.mem_of_getElem? hk)
                      obtain ⟨tt, hvv⟩ := row_at hIr (j := k.toNat) (by omega)
                      iterate 3 walk1
                      refine item_litK (l := r) (vs := rvs) (by kmk_list) hkb.1 (by omega) hvv ?_
                      refine hQ _ _ _ (fun _ _ e => e) fun z hz => ?_
                      rw [hzz, hk] at hz
                      cases hz
                      exact ⟨tt, rfl⟩
                    case fin =>
                      clear F N
                      intro kvs hkvl hkv ka h21 tk21 F N
                      refine flat_st (s₁ := ‹Shared›) (h := _) (tk := _) rfl fun tk22 => ?_
                      refine ne_lists (vs := cv) (us := kvs) (by kmk_list) (by kmk_list) (by omega) (by k_dflt ke_room) (fun i v u h1 h2 => ?_) ?_
                      · have hi : i < zs.length := by have := (List.getElem?_eq_some_iff.mp h1).1; omega
                        obtain ⟨t, ht0, rfl⟩ := hcv.2 i v zs[i] h1 (by simp)
                        obtain ⟨t', rfl⟩ := hkv i u h2 zs[i] (by simp)
                        have hb := hzb zs[i] (List.getElem_mem hi)
                        exact eqAt_fi (by omega)
                      iterate 4 walk1
                      replace N := news_drop1 N
                      refine' LCg.ListComp_U (cl := []) F ?hcl ?hce ?hkd ?hna ?hxx ?_
                      case hcl => rfl
                      case hce => decide
                      case hkd => rfl
                      case hna => decide
                      case hxx => rfl
                      walk1
                      refine map_src (vs := cv) rfl F N (by k_mem) (by rw [sizeLine_eq]; omega) (fun i y => ∀ z, (zs.map fun x => apw x.natAbs)[i]? = some z → IsBy y z) ?turn ?fin
                      case turn =>
                        clear F N
                        intro i v I oI C oC D m₂ ys h tk E' Q' hv hC hx F N hQ
                        have hi : i < zs.length := by have := (List.getElem?_eq_some_iff.mp hv).1; omega
                        have hzi : zs[i]? = some zs[i] := by simp
                        obtain ⟨t, ht0, rfl⟩ := hcv.2 i v zs[i] hv hzi
                        have hb := hzb zs[i] (List.getElem_mem hi)
                        iterate 7 walk1
                        refine ⟨XX.keeps F.keep, wpAny_call (c_int2apF (TT.keeps F.keep) (XX.keeps F.keep) hb.1 hb.2 fun h' tk' t' hk => ?_)⟩
                        refine hQ _ _ _ hk fun z hz => ⟨t', ?_⟩
                        rw [List.getElem?_map, hzi] at hz
                        cases hz
                        rfl
                      case fin =>
                        clear F N
                        intro fvs hfl hfv fa2 h23 tk23 F N
                        refine flat_st (s₁ := ‹Shared›) (h := _) (tk := _) rfl fun tk24 => ?_
                        refine' LCg.ListComp_U F ?hcl ?hce ?hkd ?hna ?hxx ?_
                        case hcl => rfl
                        case hce => decide
                        case hkd => rfl
                        case hna => decide
                        case hxx => rfl
                        walk1
                        refine map_src (vs := ov) rfl F N (by k_mem) (by rw [sizeLine_eq]; omega) (fun i y => ∀ z, (zs.map fun x => apw x.natAbs)[i]? = some z → IsBy y z) ?turn ?fin
                        case turn =>
                          clear F N
                          intro i v I oI C oC D m₂ ys h tk E' Q' hv hC hx F N hQ
                          obtain ⟨k, t, rfl, hk⟩ := IntsAre.at hIo i v hv
                          have hkb := hom k (List.mem_of_getElem? hk)
                          have hkn : k.toNat < ns.length := by omega
                          have hbk : bvs[k.toNat]? = some (bvs[k.toNat]'(by omega)) := by simp
                          have hnk : ns[k.toNat]? = some ns[k.toNat] := by simp
                          obtain ⟨tt, hvv⟩ := hbw.2 k.toNat _ (apw (ns[k.toNat]).natAbs) hbk (by rw [List.getElem?_map, hnk]; rfl)
                          iterate 3 walk1
                          refine item_litK (l := wa) (vs := bvs) (by kmk_list) hkb.1 (by omega) (hbk.trans (congrArg some hvv)) ?_
                          refine hQ _ _ _ (fun _ _ e => e) fun z hz => ?_
                          rw [List.getElem?_map, hzz, hk] at hz
                          cases hz
                          refine ⟨tt, ?_⟩
                          dsimp only
                          rw [List.getD_eq_getElem?_getD, hnk]; rfl
                        case fin =>
                          clear F N
                          intro gvs hgl hgv ga h25 tk25 F N
                          refine flat_st (s₁ := ‹Shared›) (h := _) (tk := _) rfl fun tk26 => ?_
                          refine ne_lists (vs := fvs) (us := gvs) (by kmk_list) (by kmk_list) (by omega) (by k_dflt ke_room) (fun i v u h1 h2 => ?_) ?_
                          · have hi : i < zs.length := by have := (List.getElem?_eq_some_iff.mp h1).1; omega
                            have hzi : zs[i]? = some zs[i] := by simp
                            obtain ⟨t, rfl⟩ := hfv i v h1 (apw (zs[i]).natAbs) (by rw [List.getElem?_map, hzi]; rfl)
                            obtain ⟨t', rfl⟩ := hgv i u h2 (apw (zs[i]).natAbs) (by rw [List.getElem?_map, hzi]; rfl)
                            exact eqAt_bb
                          iterate 6 walk1
                          replace N := news_drop2 N
                          refine flat_st (s₁ := ‹Shared›) (h := _) (tk := _) rfl fun tk27 => ?_
                          iterate 14 walk1
                          refine flat_st (s₁ := ‹Shared›) (h := _) (tk := _) rfl fun tk28 => ?_
                          iterate 2 walk1
                          refine ⟨XX.keeps F.keep, wpAny_call (c_inc (TT.keeps F.keep) (XX.keeps F.keep) (a := r) (vs := rvs) (by kmk_list) hIr h4 h11 hsm hpe hso rfl fun h29 tk29 ia iv ik hk29 hD29 hG29 hiv => ?_)⟩
                          replace N := news_new F N hk29 hD29 hG29
                          replace F := F.keeps hk29
                          refine flat_st (s₁ := ‹Shared›) (h := _) (tk := _) rfl fun tk30 => ?_
                          iterate 10 walk1
                          refine' kmk_slice_lit (lo := some 1) (hi := some (-1)) F N ?l (.int _ _) (.int _ _) (pick_mid cv (by omega)) ?_ ?s ?t ?z
                          case l => kmk_list
                          case s => with_unfolding_all rfl
                          case t => kmk_pure
                          case z => rw [List.size_toArray, sizeLine_eq]; omega
                          clear F N
                          intro ma h31 F N _
                          refine flat_st (s₁ := ‹Shared›) (h := _) (tk := _) rfl fun tk32 => ?_
                          have hnb : NotTold h31 := not_told_of (XX.keeps F.keep) (by k_is)
                          have hil : iv.length = zs.length - 2 := by rw [hiv.1, List.length_take, List.length_drop]; omega
                          have hml : ((cv.drop 1).take (cv.length - 2)).length = zs.length - 2 := by rw [List.length_take, List.length_drop]; omega
                          refine ne_lists (vs := iv) (us := (cv.drop 1).take (cv.length - 2)) (by kmk_list) (by kmk_list) (by omega) (by k_dflt ke_room) (fun i v u h1 h2 => ?_) ?_
                          · have hi : i < zs.length - 2 := by have := (List.getElem?_eq_some_iff.mp h1).1; omega
                            have hzi : zs[1 + i]? = some (zs[1 + i]'(by omega)) := by simp
                            have hb := hzb (zs[1 + i]'(by omega)) (List.getElem_mem _)
                            obtain ⟨t, ht0, rfl⟩ := hiv.2 i v (zs[1 + i]'(by omega)) h1 (by rw [List.getElem?_take_of_lt hi, List.getElem?_drop]; exact hzi)
                            rw [List.getElem?_take_of_lt (by omega), List.getElem?_drop] at h2
                            obtain ⟨t', ht0', rfl⟩ := hcv.2 (1 + i) u (zs[1 + i]'(by omega)) h2 hzi
                            exact eqAt_ff (by omega) ht0 ht0' hnb
                          iterate 5 walk1
                          replace N := news_drop2 N
                          refine flat_st (s₁ := ‹Shared›) (h := _) (tk := _) rfl fun tk33 => ?_
                          obtain ⟨k1, t1, t1', ho1, hk1, hk1', hr1⟩ := ord_at hIo hIr hom hol hzz (j := (ns.length - 1) / 2) (by omega)
                          obtain ⟨k2, t2, t2', ho2, hk2, hk2', hr2⟩ := ord_at hIo hIr hom hol hzz (j := ns.length / 2) (by omega)
                          have ei1 : (((ns.length : Int) - 1).fdiv 2) = (((ns.length - 1) / 2 : Nat) : Int) := by rw [← fdiv2]; congr 1; omega
                          have ei2 : ((ns.length : Int).fdiv 2) = ((ns.length / 2 : Nat) : Int) := fdiv2 _
                          iterate 11 walk1
                          refine item_litK (l := oa) (vs := ov) (by kmk_list) (by omega) (by omega) (by rw [ei1, Int.toNat_natCast]; exact ho1) ?_
                          refine item_litK (l := r) (vs := rvs) (by kmk_list) hk1 (by omega) hr1 ?_
                          walk1
                          rename Fr _ _ _ _ => F; rename News _ _ _ _ => N
                          refine flat_st (s₁ := ‹Shared›) (h := _) (tk := _) rfl fun tk34 => ?_
                          iterate 10 walk1
                          refine item_litK (l := oa) (vs := ov) (by kmk_list) (by omega) (by omega) (by rw [ei2, Int.toNat_natCast]; exact ho2) ?_
                          refine item_litK (l := r) (vs := rvs) (by kmk_list) hk2 (by omega) hr2 ?_
                          walk1
                          rename Fr _ _ _ _ => F; rename News _ _ _ _ => N
                          refine flat_st (s₁ := ‹Shared›) (h := _) (tk := _) rfl fun tk35 => ?_
                          iterate 10 walk1
                          refine ⟨XX.keeps F.keep, wpAny_call (c_low (TT.keeps F.keep) (XX.keeps F.keep) (a := r) (vs := rvs) (by kmk_list) hIr h4 h11 hsm hpe hso fun h36 tk36 t3 hk36 => ?_)⟩
                          replace N := N.grown hk36
                          replace F := F.keeps hk36
                          refine flat_st (s₁ := ‹Shared›) (h := _) (tk := _) rfl fun tk37 => ?_
                          iterate 7 walk1
                          refine ⟨XX.keeps F.keep, wpAny_call (c_high (TT.keeps F.keep) (XX.keeps F.keep) (a := r) (vs := rvs) (by kmk_list) hIr h4 h11 hsm hpe hso fun h38 tk38 t4 hk38 => ?_)⟩
                          replace N := N.grown hk38
                          replace F := F.keeps hk38
                          refine flat_st (s₁ := ‹Shared›) (h := _) (tk := _) rfl fun tk39 => ?_
                          iterate 3 walk1
                          rename Fr _ _ _ _ => F; rename News _ _ _ _ => N
                          rename_i tda _ _ _
                          rw [hzl] at N
                          refine flat_st (s₁ := ‹Shared›) (h := _) (tk := _) rfl fun tk41 => ?_
                          have hlb := getD_small hzb ((ns.length - 1) / 2)
                          have hhb := getD_small hzb (ns.length / 2)
                          iterate 40 walk1
                          refine flat_st (s₁ := ‹Shared›) (h := _) (tk := _) rfl fun tk42 => ?_
                          iterate 19 walk1
                          rename Fr _ _ _ _ => F; rename News _ _ _ _ => N
                          refine ⟨XX.keeps F.keep, wpAny_call (c_medV (TT.keeps F.keep) (XX.keeps F.keep) (a := r) (vs := rvs) (by kmk_list) hIr h4 h11 hsm hpe hso fun h43 tk43 mv hmv hk43 => ?_)⟩
                          replace N := N.grown hk43
                          replace F := F.keeps hk43
                          walk1
                          rename Fr _ _ _ _ => F; rename News _ _ _ _ => N
                          refine flat_st (s₁ := ‹Shared›) (h := _) (tk := _) rfl fun tk44 => ?_
                          iterate 7 walk1
                          refine two_mid hzl hzb h4 hmv fun tw tk45 htw => ?_
                          iterate 4 walk1
                          refine ne_mid (by omega) htw ?_
                          iterate 12 walk1
                          refine inst_mid hzl hmv fun tk46 => ?_
                          refine flat_st (s₁ := ‹Shared›) (h := _) (tk := _) rfl fun tk47 => ?_
                          iterate 8 walk1
                          refine truthy_eq even_same ?_
                          iterate 5 walk1
                          refine flat_st (s₁ := ‹Shared›) (h := _) (tk := _) rfl fun tk48 => ?_
                          iterate 3 walk1
                          refine' ListComp_Tup (cl := []) F ?hcl ?hce ?hkd ?hna ?hxx ?_
                          case hcl => rfl
                          case hce => decide
                          case hkd => rfl
                          case hna => decide
                          case hxx => rfl
                          iterate 11 walk1
                          rename Fr _ _ _ _ => F; rename News _ _ _ _ => N
                          refine ⟨_, #[.ref 41, .ref 48, .ref 34, .ref 56], _, _, rfl, rfl, F, N, List.mem_cons_self, by rw [sizeLine_eq]; decide, ?turn, ?fin⟩
                          case turn =>
                            clear F N
                            intro i v I oI C oC D m₂ h tk E' Q' hv hC hx F N hQ
                            have hv4 : v = .ref 41 ∨ v = .ref 48 ∨ v = .ref 34 ∨ v = .ref 56 := by
                              have := Array.mem_of_getElem? hv
                              simpa using this
                            clear hv
                            refine flat_st (s₁ := ‹Shared›) (h := _) (tk := _) rfl fun tk49 => ?_
                            iterate 9 walk1
                            refine ⟨XX.keeps F.keep, wpAny_call (c_refAny BB F TT rfl rfl N XX hv4 fun h52 tk52 F N => ?_)⟩
                            iterate 1 walk1
                            first
                            | exact hQ _ _ F N
                          case fin =>
                            clear F N
                            intro ea2 h50 tk50 F N
                            refine flat_st (s₁ := ‹Shared›) (h := _) (tk := _) rfl fun tk51 => ?_
                            iterate 3 walk1
                            rename Fr _ _ _ _ => F; rename News _ _ _ _ => N
                            refine ne_lists (vs := []) (us := []) (by kmk_list) (by kmk_list) rfl (by k_dflt ke_room) (fun i v u h1 => by simp at h1) ?_
                            iterate 4 walk1
                            refine flat_st (s₁ := ‹Shared›) (h := _) (tk := _) rfl fun tk53 => ?_
                            iterate 6 walk1
                            first
                            | k_steps
                            | walk1))
