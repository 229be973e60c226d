import PyProof.Rows.All
import Wide.All
import OpenK.AllK
import Wide.FinOn
import Lean
import PySem.Challenge.RW_hn0001_01
set_option Elab.async false
section
open PySem PySem.W PyProof.Rows PySem.Calls
set_option maxRecDepth 100000
namespace Mine
section
variable {prog : Program} {w : World} {A A₀ : Around} {E : Value → Shared → Prop} {s : Shared} {K : Frag} {L : Addr} {h₀ base : Heap} {m mg mb : Str → Option Value} {news : List (Addr × Obj)} {p : Program} {loose : List Str} {mean : ExcName → Option Value}

abbrev gnd (h : Heap) (news : List (Addr × Obj)) : Heap := hideAll h (news.map (·.1))

theorem call_raw {env : Env} {outer : List Env} {R : Result → Shared → Prop} {name qual : Str} {params : Arguments} {body : List Stmt} {scope : Scope} {dV kV doc pm cdv ct oc : Value} {an od : Option Addr} {osl : Array (Option Value)} {f : Addr} {args : Args} {binds : List (Str × Value)}
    (B : Below A₀ base outer h₀) (F : Fr h₀ L s.heap m) (X₀ : K.In h₀) (N : News h₀ L s.heap news) (T : Top p loose mean mg mb h₀) (hA : A.frames = some (env :: outer)) (hf : env.frame = some L) (hke : env.scope.kind = .function)
    (ho : K.lookup f = some ⟨oc, od, .func (fnOf name qual params body scope dV kV doc pm an cdv ct), osl⟩) (hcd : codeIn K cdv qual = true) (hroom : A.depth < recursionLimit)
    (hbind : BindsTo s (fnOf name qual params body scope dV kV doc pm an cdv ct) args binds) (hloc : ∀ y ∈ binds, scope.names.lookup y.1 = some .local)
    (h : ∀ L' h₁ (tk : Nat), Fr h₀ L (gnd s.heap news) m → Fr (gnd s.heap news) L' h₁ (fun y => binds.reverse.lookup y) → News (gnd s.heap news) L' h₁ news → Below A base (env :: outer) (gnd s.heap news) → K.In (gnd s.heap news) → Top p loose mean mg mb (gnd s.heap news) → h₀.StaysIn (gnd s.heap news) → (∀ p ∈ news, p.1 < L') →
      wpAny (model prog w) (A.deeper (envOf qual scope L' f cdv)) (execs body (envOf qual scope L' f cdv))
        (fun fl s' => R (.ok (.ret (match fl with | .ret v => v | _ => .none))) s')
        (fun e s' => wpAny (model prog w) (A.deeper (envOf qual scope L' f cdv)) (leaving (envOf qual scope L' f cdv) e) (fun _ s'' => R (.error e) s'') (fun e' s'' => R (.error e') s'') s')
        { s with heap := h₁, toks := tk })
    (hco : scope.isCoroutine = false) (hgen : scope.isGenerator = false) (hk : scope.kind = .function)
    (hcell : ∀ x ∈ scope.names, x.2 ≠ .cell) : codeAny (model prog w) A (.call (.ref f) args) R s := by
  obtain ⟨FG, BG, st, lv⟩ := groundX (R := R) B F N hA hf hke
  refine codeAny_call_def (fd := fnOf name qual params body scope dV kV doc pm an cdv ct) (body := body) (binds := binds) hroom ((X₀.keeps F.keep) _ _ ho) rfl (T.nolimit.keeps F.keep) (codeRec_of (X₀.keeps F.keep) hcd) rfl hbind hcell hloc (fun h₁ hns hk₁ => ?_) hco hgen hk
  exact h s.heap.objs.size h₁ _ FG ⟨hns, fun b o e => hk₁ b o (of_hideAll _ e), Nat.le_of_eq (hideAll_size _ _)⟩
    (fun p hp => ⟨hk₁ _ _ (N p hp).1, Nat.ne_of_lt (Heap.lt_size (N p hp).1), hideAll_none _ (List.mem_map_of_mem hp)⟩) BG (X₀.keeps st) (T.keeps st) st (fun p hp => Heap.lt_size (N p hp).1)

theorem call_rawC {env : Env} {outer : List Env} {R : Result → Shared → Prop} {name qual : Str} {params : Arguments} {body : List Stmt} {scope : Scope} {dV kV doc pm cdv ct oc : Value} {an od : Option Addr} {osl : Array (Option Value)} {f : Addr} {args : Args} {binds : List (Str × Value)}
    (B : Below A₀ base outer h₀) (F : Fr h₀ L s.heap m) (X₀ : K.In h₀) (N : News h₀ L s.heap news) (T : Top p loose mean mg mb h₀) (hA : A.frames = some (env :: outer)) (hf : env.frame = some L) (hke : env.scope.kind = .function)
    (ho : K.lookup f = some ⟨oc, od, .func (fnOf name qual params body scope dV kV doc pm an cdv ct), osl⟩) (hcd : codeIn K cdv qual = true) (hroom : A.depth < recursionLimit)
    (hbind : BindsTo s (fnOf name qual params body scope dV kV doc pm an cdv ct) args binds) (hkind : (binds.all fun y => scope.names.lookup y.1 == some .local || scope.names.lookup y.1 == some .cell) = true)
    (hnd : ((cellsFrom 0 scope.names []).map (·.1)).Nodup)
    (h : ∀ L' h₁ tk cells, Fr h₀ L (gnd s.heap news) m → Fr (gnd s.heap news) L' h₁ (bindL (envOfC qual scope L' f cdv).kindOf binds fun _ => none) → News (gnd s.heap news) L' h₁ (cells ++ news) →
      CellsAre (bindC (envOfC qual scope L' f cdv).kindOf binds fun _ => none) (cellsFrom (L' + 1) scope.names []) cells → Below A base (env :: outer) (gnd s.heap news) → K.In (gnd s.heap news) → Top p loose mean mg mb (gnd s.heap news) → h₀.StaysIn (gnd s.heap news) → (∀ p ∈ news, p.1 < L') →
      wpAny (model prog w) (A.deeper (envOfC qual scope L' f cdv)) (execs body (envOfC qual scope L' f cdv))
        (fun fl s' => R (.ok (.ret (match fl with | .ret v => v | _ => .none))) s')
        (fun e s' => wpAny (model prog w) (A.deeper (envOfC qual scope L' f cdv)) (leaving (envOfC qual scope L' f cdv) e) (fun _ s'' => R (.error e) s'') (fun e' s'' => R (.error e') s'') s')
        { s with heap := h₁, toks := tk })
    (hco : scope.isCoroutine = false) (hgen : scope.isGenerator = false) (hk : scope.kind = .function) : codeAny (model prog w) A (.call (.ref f) args) R s := by
  obtain ⟨FG, BG, st, lv⟩ := groundX (R := R) B F N hA hf hke
  have hlim := T.nolimit
  refine codeAny_call_function hroom ((X₀.keeps F.keep) _ _ ho) rfl hco hgen rfl (codeRec_of (X₀.keeps F.keep) hcd) (hbind _ _ _ _ ?_)
  refine wpAny_newFunctionEnv_cells hk (kindsX hkind _) fun env' he s' x => ?_
  subst he
  refine ⟨(hlim.keeps F.keep).keeps x.toInCall.keep, codeAny_func ?_⟩
  obtain ⟨h₁, tk, rfl, _⟩ := x.done
  have hk₁ := x.toInCall.keep
  obtain ⟨cells, NC, Y⟩ := Cl.news (h₀ := s.heap) (Nat.le_refl _) fun n c hm => ⟨x.cell n c (lookup_of_mem_nodup (cellsFrom_names scope.names 0 (s.heap.objs.size + 1) [] [] rfl ▸ hnd) hm), x.above n c hm⟩
  refine h s.heap.objs.size h₁ tk cells FG ⟨x.toInCall.ns, fun b o e => hk₁ b o (of_hideAll _ e), Nat.le_of_eq (hideAll_size _ _)⟩ (fun p hp => ?_) Y BG (X₀.keeps st) (T.keeps st) st (fun p hp => Heap.lt_size (N p hp).1)
  rcases List.mem_append.mp hp with hp | hp
  · refine ⟨(NC p hp).1, (NC p hp).2.1, ?_⟩
    cases q : (hideAll s.heap (news.map (·.1))).get? p.1 with
    | none => rfl
    | some o => have := of_hideAll _ q; rw [(NC p hp).2.2] at this; cases this
  · exact ⟨hk₁ _ _ (N p hp).1, Nat.ne_of_lt (Heap.lt_size (N p hp).1), hideAll_none _ (List.mem_map_of_mem hp)⟩

theorem call_rawN {env : Env} {outer : List Env} {R : Result → Shared → Prop} {name qual : Str} {params : Arguments} {body : List Stmt} {scope : Scope} {cl : List (Str × Addr)} {doc pm ctv : Value} {c' : Addr} {f : Addr} {args : Args} {binds : List (Str × Value)}
    (B : Below A₀ base outer h₀) (F : Fr h₀ L s.heap m) (X₀ : K.In h₀) (N : News h₀ L s.heap news) (T : Top p loose mean mg mb h₀) (hA : A.frames = some (env :: outer)) (hf : env.frame = some L) (hke : env.scope.kind = .function)
    (ho : (f, fnMade name qual params body scope cl doc pm c' ctv) ∈ news) (hcd : s.heap.CodeRec (.ref c') qual) (hroom : A.depth < recursionLimit)
    (hbind : BindsTo s (fnX name qual params body scope cl .none .none doc pm none (.ref c') ctv) args binds) (hloc : ∀ y ∈ binds, scope.names.lookup y.1 = some .local)
    (h : ∀ L' h₁ (tk : Nat), Fr h₀ L (gnd s.heap news) m → Fr (gnd s.heap news) L' h₁ (fun y => binds.reverse.lookup y) → News (gnd s.heap news) L' h₁ news → Below A base (env :: outer) (gnd s.heap news) → K.In (gnd s.heap news) → Top p loose mean mg mb (gnd s.heap news) → h₀.StaysIn (gnd s.heap news) → (∀ p ∈ news, p.1 < L') →
      wpAny (model prog w) (A.deeper (envX qual scope L' f (.ref c') cl)) (execs body (envX qual scope L' f (.ref c') cl))
        (fun fl s' => R (.ok (.ret (match fl with | .ret v => v | _ => .none))) s')
        (fun e s' => wpAny (model prog w) (A.deeper (envX qual scope L' f (.ref c') cl)) (leaving (envX qual scope L' f (.ref c') cl) e) (fun _ s'' => R (.error e) s'') (fun e' s'' => R (.error e') s'') s')
        { s with heap := h₁, toks := tk })
    (hco : scope.isCoroutine = false) (hgen : scope.isGenerator = false) (hk : scope.kind = .function)
    (hcell : ∀ x ∈ scope.names, x.2 ≠ .cell) : codeAny (model prog w) A (.call (.ref f) args) R s := by
  obtain ⟨FG, BG, st, lv⟩ := groundX (R := R) B F N hA hf hke
  refine codeAny_call_def (fd := fnX name qual params body scope cl .none .none doc pm none (.ref c') ctv) (body := body) (binds := binds) hroom (N _ ho).1 rfl (T.nolimit.keeps F.keep) hcd rfl hbind hcell hloc (fun h₁ hns hk₁ => ?_) hco hgen hk
  exact h s.heap.objs.size h₁ _ FG ⟨hns, fun b o e => hk₁ b o (of_hideAll _ e), Nat.le_of_eq (hideAll_size _ _)⟩
    (fun p hp => ⟨hk₁ _ _ (N p hp).1, Nat.ne_of_lt (Heap.lt_size (N p hp).1), hideAll_none _ (List.mem_map_of_mem hp)⟩) BG (X₀.keeps st) (T.keeps st) st (fun p hp => Heap.lt_size (N p hp).1)
theorem stays_of {h' : Heap} {L' : Addr} {m' : Str → Option Value} (N : News h₀ L s.heap news) (F' : Fr (gnd s.heap news) L' h' m') (hk : ∀ p ∈ news, h'.get? p.1 = some p.2) : s.heap.StaysIn h' := fun b o e => by
  by_cases hb : b ∈ news.map (·.1)
  · obtain ⟨p, hp, rfl⟩ := List.mem_map.mp hb
    rw [(N p hp).1] at e
    rw [hk p hp]; exact e
  · exact F'.keep b o (hideAll_get _ e hb)
end
theorem isList_of {h₀ h : Heap} {L D : Addr} {its : Array Value} {v : Nat} {news : List (Addr × Obj)} (N : News h₀ L h news) (hm : (D, W.listOf its v) ∈ news) : h.IsList D its := ⟨W.listOf its v, (N _ hm).1, rfl, v, rfl⟩
theorem gnd_list {h₀ h : Heap} {L l : Addr} {its : Array Value} {news : List (Addr × Obj)} (_N : News h₀ L h news) (hl : h.IsList l its) (hlp : l ∉ news.map (·.1)) : (gnd h news).IsList l its := hl.at fun o e => hideAll_get _ e hlp
theorem is_list_of {h₀ h : Heap} {L l : Addr} {its : Array Value} {m : Str → Option Value} (F : Fr h₀ L h m) (hl : h₀.IsList l its) : h.IsList l its := hl.at fun o e => F.keep l o e
theorem news_take5 {h₀ h : Heap} {L : Addr} {a b c d e : Addr × Obj} {r : List (Addr × Obj)} (N : News h₀ L h (a :: b :: c :: d :: e :: r)) : News h₀ L h [a, b, c, d, e] := fun p hp => N p (by
  simp only [List.mem_cons, List.not_mem_nil, or_false] at hp ⊢
  rcases hp with q | q | q | q | q <;> simp [q])
theorem list_not_in {h₀ h : Heap} {L l : Addr} {its : Array Value} {news : List (Addr × Obj)} (N : News h₀ L h news) (hl : h₀.IsList l its) : l ∉ news.map (·.1) := fun hm => by
  obtain ⟨p, hp, rfl⟩ := List.mem_map.mp hm
  obtain ⟨o, e, _⟩ := hl
  rw [(N p hp).2.2] at e; cases e
theorem fresh_gnd {h : Heap} {c : Addr} {news : List (Addr × Obj)} (e : (gnd h news).get? c = none) (hc : c ∉ news.map (·.1)) : h.get? c = none := by
  cases q : h.get? c with
  | none => rfl
  | some o => rw [hideAll_get _ q hc] at e; cases e
theorem news_mix {h₀ h : Heap} {L : Addr} {a b c d e g : Addr × Obj} (N : News h₀ L h [a, b, c, d, e, g]) : News h₀ L h [a, g, b, c, d] := fun p hp => N p (by
  simp only [List.mem_cons, List.not_mem_nil, or_false] at hp ⊢
  rcases hp with q | q | q | q | q <;> simp [q])
theorem fr_at {g h h' : Heap} {L D : Addr} {m : Str → Option Value} (F : Fr g L h m) (k : ∀ b o, b ≠ D → h.get? b = some o → h'.get? b = some o) (hDL : D ≠ L) (hg : g.get? D = none) : Fr g L h' m :=
  ⟨F.ns.at' fun o e => k L o (Ne.symm hDL) e, fun b o e => k b o (fun q => by rw [q, hg] at e; cases e) (F.keep b o e), F.above⟩
theorem stays_but {s : Shared} {h₀ h' : Heap} {L L' D : Addr} {m' : Str → Option Value} {news : List (Addr × Obj)} (N : News h₀ L s.heap news) (F' : Fr (gnd s.heap news) L' h' m') (hk : ∀ p ∈ news, p.1 ≠ D → h'.get? p.1 = some p.2) : ∀ b o, b ≠ D → s.heap.get? b = some o → h'.get? b = some o := fun b o hD e => by
  by_cases hb : b ∈ news.map (·.1)
  · obtain ⟨p, hp, rfl⟩ := List.mem_map.mp hb
    rw [(N p hp).1] at e
    rw [hk p hp hD]; exact e
  · exact F'.keep b o (hideAll_get _ e hb)
theorem news6_hk {g h : Heap} {L D : Addr} {a b c d e : Addr × Obj} {o o' : Obj} (N : News g L h [a, b, (D, o'), c, d, e]) : ∀ p ∈ [a, b, (D, o), c, d, e], p.1 ≠ D → h.get? p.1 = some p.2 := fun p hp hne => by
  simp only [List.mem_cons, List.not_mem_nil, or_false] at hp
  rcases hp with rfl | rfl | rfl | rfl | rfl | rfl
  · exact (N _ (by simp)).1
  · exact (N _ (by simp)).1
  · exact absurd rfl hne
  · exact (N _ (by simp)).1
  · exact (N _ (by simp)).1
  · exact (N _ (by simp)).1
theorem news6_set {g h h' : Heap} {L D fa fb fc fd fe : Addr} {oa ob oc od oe o o' : Obj} (N : News g L h [(fa, oa), (fb, ob), (D, o), (fc, oc), (fd, od), (fe, oe)]) (k : ∀ b o, b ≠ D → h.get? b = some o → h'.get? b = some o) (e : h'.get? D = some o')
    (a1 : @Ne Nat fa D) (a2 : @Ne Nat fb D) (a3 : @Ne Nat fc D) (a4 : @Ne Nat fd D) (a5 : @Ne Nat fe D) : News g L h' [(fa, oa), (fb, ob), (D, o'), (fc, oc), (fd, od), (fe, oe)] := fun p hp => by
  simp only [List.mem_cons, List.not_mem_nil, or_false] at hp
  rcases hp with rfl | rfl | rfl | rfl | rfl | rfl
  · have z := N (fa, oa) (by simp); exact ⟨k _ _ a1 z.1, z.2⟩
  · have z := N (fb, ob) (by simp); exact ⟨k _ _ a2 z.1, z.2⟩
  · have z := N (D, o) (by simp); exact ⟨e, z.2⟩
  · have z := N (fc, oc) (by simp); exact ⟨k _ _ a3 z.1, z.2⟩
  · have z := N (fd, od) (by simp); exact ⟨k _ _ a4 z.1, z.2⟩
  · have z := N (fe, oe) (by simp); exact ⟨k _ _ a5 z.1, z.2⟩
theorem news_off {g h h' : Heap} {L D : Addr} {news news' : List (Addr × Obj)} (N : News g L h news) (k : ∀ b o, b ≠ D → h.get? b = some o → h'.get? b = some o) (sub : ∀ p ∈ news', p ∈ news) (ne : ∀ p ∈ news', p.1 ≠ D) : News g L h' news' :=
  fun p hp => ⟨k _ _ (ne p hp) (N p (sub p hp)).1, (N p (sub p hp)).2⟩
theorem news_sub {g h : Heap} {L : Addr} {news news' : List (Addr × Obj)} (N : News g L h news) (sub : ∀ p ∈ news', p ∈ news) : News g L h news' := fun p hp => N p (sub p hp)
theorem news_pick8 {g h : Heap} {L : Addr} {a b c d e f i j : Addr × Obj} (N : News g L h [a, b, c, d, e, f, i, j]) : News g L h [a, b, c, e, i, f] := news_sub N fun p hp => by
  simp only [List.mem_cons, List.not_mem_nil, or_false] at hp ⊢
  rcases hp with q | q | q | q | q | q <;> simp [q]
theorem news_off8 {g h h' : Heap} {L D fa fb fc fd fe ff fg : Addr} {oa ob oc od oe oF og o : Obj} (N : News g L h [(fa, oa), (fb, ob), (D, o), (fc, oc), (fd, od), (fe, oe), (ff, oF), (fg, og)]) (k : ∀ b o, b ≠ D → h.get? b = some o → h'.get? b = some o)
    (a1 : @Ne Nat fa D) (a2 : @Ne Nat fb D) (a4 : @Ne Nat fd D) (a5 : @Ne Nat fe D) (a6 : @Ne Nat ff D) (a7 : @Ne Nat fg D) : News g L h' [(fa, oa), (fb, ob), (fd, od), (fe, oe), (ff, oF), (fg, og)] :=
  news_off N k (fun p hp => by
    simp only [List.mem_cons, List.not_mem_nil, or_false] at hp ⊢
    rcases hp with q | q | q | q | q | q <;> simp [q]) fun p hp => by
    simp only [List.mem_cons, List.not_mem_nil, or_false] at hp
    rcases hp with rfl | rfl | rfl | rfl | rfl | rfl <;> assumption
theorem news_pickH {g h : Heap} {L : Addr} {a c d e f i j k : Addr × Obj} (N : News g L h [a, c, d, e, f, i, j, k]) : News g L h [a, k, c, e, i, f] := news_sub N fun p hp => by
  simp only [List.mem_cons, List.not_mem_nil, or_false] at hp ⊢
  rcases hp with q | q | q | q | q | q <;> simp [q]
theorem news_offH {g h h' : Heap} {L D fa fc fd fe ff fg fi : Addr} {oa oc od oe oF og oi o : Obj} (N : News g L h [(fa, oa), (D, o), (fc, oc), (fd, od), (fe, oe), (ff, oF), (fg, og), (fi, oi)]) (k : ∀ b o, b ≠ D → h.get? b = some o → h'.get? b = some o)
    (a1 : @Ne Nat fa D) (a4 : @Ne Nat fd D) (a5 : @Ne Nat fe D) (a6 : @Ne Nat ff D) (a7 : @Ne Nat fg D) (a8 : @Ne Nat fi D) : News g L h' [(fa, oa), (fd, od), (fe, oe), (ff, oF), (fg, og), (fi, oi)] :=
  news_off N k (fun p hp => by
    simp only [List.mem_cons, List.not_mem_nil, or_false] at hp ⊢
    rcases hp with q | q | q | q | q | q <;> simp [q]) fun p hp => by
    simp only [List.mem_cons, List.not_mem_nil, or_false] at hp
    rcases hp with rfl | rfl | rfl | rfl | rfl | rfl <;> assumption
noncomputable def AllNe (d : Addr) : List (Addr × Obj) → Prop
  | [] => True
  | p :: r => @Ne Nat p.1 d ∧ AllNe d r
theorem allNe_of {d : Addr} : ∀ {l : List (Addr × Obj)}, (∀ p ∈ l, p.1 ≠ d) → AllNe d l
  | [], _ => trivial
  | p :: _, h => ⟨h p (.head _), allNe_of fun q hq => h q (.tail _ hq)⟩
theorem ne_of_allNe {d : Addr} {l : List (Addr × Obj)} (h : AllNe d l) : ∀ p ∈ l, p.1 ≠ d := by
  induction l with
  | nil => intro p hp; cases hp
  | cons q r ih =>
    intro p hp
    rcases List.mem_cons.mp hp with e | hp
    · rw [e]; exact h.1
    · exact ih h.2 p hp
theorem grow {g h h' : Heap} {L r : Addr} {m : Str → Option Value} {o : Obj} {news : List (Addr × Obj)} (F : Fr g L h m) (N : News g L h news) (st : h.StaysIn h') (e : h'.get? r = some o) (fr : h.get? r = none) : Fr g L h' m ∧ News g L h' ((r, o) :: news) ∧ AllNe r news ∧ @Ne Nat r L := by
  refine ⟨F.keeps st, fun p hp => ?_, allNe_of fun p hp q => ?_, ?_⟩
  · rcases List.mem_cons.mp hp with rfl | hp
    · refine ⟨e, ?_, ?_⟩
      · rintro rfl
        obtain ⟨oL, _, _, eL, _⟩ := F.ns
        rw [fr] at eL; cases eL
      · cases q : g.get? r with
        | none => rfl
        | some o' => rw [F.keep _ _ q] at fr; cases fr
    · exact ⟨st _ _ (N p hp).1, (N p hp).2⟩
  · rw [← q, (N p hp).1] at fr; cases fr
  · rintro rfl
    obtain ⟨oL, _, _, eL, _⟩ := F.ns
    rw [fr] at eL; cases eL
theorem first_grow {g h h' : Heap} {L P c : Addr} {m : Str → Option Value} {op op' oc : Obj} {nx : List (Addr × Obj)} (F : Fr g L h m) (N : News g L h ((P, op) :: nx)) (k : ∀ b o, b ≠ P → h.get? b = some o → h'.get? b = some o)
    (eP : h'.get? P = some op') (ec : h'.get? c = some oc) (fc : h.get? c = none) (hne : AllNe P nx) : Fr g L h' m ∧ News g L h' ((c, oc) :: (P, op') :: nx) ∧ AllNe c nx ∧ @Ne Nat P c ∧ @Ne Nat c L := by
  have zP := N (P, op) (.head _)
  have hcL : c ≠ L := by
    rintro rfl
    obtain ⟨oL, _, _, eL, _⟩ := F.ns
    rw [fc] at eL; cases eL
  have hcP : P ≠ c := by
    rintro rfl
    rw [zP.1] at fc; cases fc
  refine ⟨fr_at F k zP.2.1 zP.2.2, fun p hp => ?_, allNe_of fun p hp q => ?_, hcP, hcL⟩
  · rcases List.mem_cons.mp hp with rfl | hp
    · refine ⟨ec, hcL, ?_⟩
      cases q : g.get? c with
      | none => rfl
      | some o' => rw [F.keep _ _ q] at fc; cases fc
    · rcases List.mem_cons.mp hp with rfl | hp
      · exact ⟨eP, zP.2⟩
      · have z := N p (.tail _ hp)
        exact ⟨k _ _ (ne_of_allNe hne p hp) z.1, z.2⟩
  · rw [← q, (N p (.tail _ hp)).1] at fc; cases fc
theorem first_growR {g h h' : Heap} {L P c r : Addr} {m : Str → Option Value} {op op' oc oR : Obj} {nx : List (Addr × Obj)} (F : Fr g L h m) (N : News g L h ((P, op) :: nx)) (k : ∀ b o, b ≠ P → h.get? b = some o → h'.get? b = some o)
    (eP : h'.get? P = some op') (ec : h'.get? c = some oc) (fc : h.get? c = none) (er : h'.get? r = some oR) (fr : h.get? r = none) (hrc : @Ne Nat r c) (hne : AllNe P nx) :
    Fr g L h' m ∧ News g L h' ((r, oR) :: (c, oc) :: (P, op') :: nx) ∧ AllNe r ((c, oc) :: (P, op') :: nx) ∧ AllNe c ((P, op') :: nx) ∧ @Ne Nat c L ∧ @Ne Nat r L := by
  obtain ⟨F', N', n1, n2, n3⟩ := first_grow F N k eP ec fc hne
  have hrL : r ≠ L := by
    rintro rfl
    obtain ⟨oL, _, _, eL, _⟩ := F.ns
    rw [fr] at eL; cases eL
  have hall : AllNe r ((P, op) :: nx) := allNe_of fun p hp q => by rw [← q, (N p hp).1] at fr; cases fr
  refine ⟨F', fun p hp => ?_, ⟨Ne.symm hrc, hall.1, hall.2⟩, ⟨n2, n1⟩, n3, hrL⟩
  rcases List.mem_cons.mp hp with rfl | hp
  · refine ⟨er, hrL, ?_⟩
    cases q : g.get? r with
    | none => rfl
    | some o' => rw [F.keep _ _ q] at fr; cases fr
  · exact N' p hp
theorem news_last6 {g h : Heap} {L : Addr} {a b c d e p : Addr × Obj} (N : News g L h [a, b, c, d, e, p]) : News g L h [p, a, b, c, d, e] := news_sub N fun q hq => by
  simp only [List.mem_cons, List.not_mem_nil, or_false] at hq ⊢
  rcases hq with q | q | q | q | q | q <;> simp [q]
theorem news_fig {g h : Heap} {L : Addr} {a b c d e f i j k l x y : Addr × Obj} (N : News g L h [a, b, c, d, e, f, i, j, k, l, x, y]) : News g L h [a, f, i, j, k, l, x, y] := news_sub N fun q hq => by
  simp only [List.mem_cons, List.not_mem_nil, or_false] at hq ⊢
  rcases hq with q | q | q | q | q | q | q | q <;> simp [q]
theorem news_last8 {g h : Heap} {L : Addr} {a b c d e f i p : Addr × Obj} (N : News g L h [a, b, c, d, e, f, i, p]) : News g L h [p, a, b, c, d, e, f, i] := news_sub N fun q hq => by
  simp only [List.mem_cons, List.not_mem_nil, or_false] at hq ⊢
  rcases hq with q | q | q | q | q | q | q | q <;> simp [q]
theorem ints_getD {vs : List Value} {ns : List Int} (h : IntsAre vs ns) {i : Nat} (hi : i < ns.length) : ∃ t, vs[i]? = some (.int (ns.getD i 0) t) := by
  obtain ⟨t, e⟩ := h.get i (ns.getD i 0) (by simp [List.getD, hi])
  exact ⟨t, e⟩
theorem item_ints {prog : Program} {w : World} {A : Around} {E : Value → Shared → Prop} {s : Shared} {value slice : Expr} {l : Addr} {vs : List Value} {ns : List Int} {k : Int} {u : Tok} {Q : Value → Shared → Prop}
    (hl : s.heap.IsList l vs.toArray) (hi : IntsAre vs ns) (h0 : 0 ≤ k) (hk : k < (ns.length : Int)) (hn : ns.length ≤ 1000) (h : ∀ t, Q (.int (ns.getD k.toNat 0) t) s)
    (hs : subscripted slice false (.ref l) (.int k u) = operate [.ref l, .int k u] (getItem (.ref l) (.int k u)) := by with_unfolding_all rfl) :
    wpAny (model prog w) A (subscriptTail value slice (.ref l) (.int k u)) Q E s := by
  obtain ⟨t, e⟩ := ints_getD hi (i := k.toNat) (by omega)
  exact tail_any hl.typeIs slot_list_getitem.lookup (wpAny_getItem_list hl h0 (by omega) (by simpa using e) (h t)) hs
theorem fix1 {m : Str → Option Value} {a : Str} {va : Option Value} (ha : m a = va) : m = fun y => if y = a then va else m y := by
  funext y; by_cases h : y = a
  · simp [h, ha]
  · simp [h]
theorem fix2 {m : Str → Option Value} {a b : Str} {va vb : Option Value} (ha : m a = va) (hb : m b = vb) : m = fun y => if y = a then va else if y = b then vb else m y := by
  funext y; by_cases h : y = a
  · rw [if_pos h, h, ha]
  · rw [if_neg h]; exact congrFun (fix1 hb) y
theorem fix3 {m : Str → Option Value} {a b c : Str} {va vb vc : Option Value} (ha : m a = va) (hb : m b = vb) (hc : m c = vc) : m = fun y => if y = a then va else if y = b then vb else if y = c then vc else m y := by
  funext y; by_cases h : y = a
  · rw [if_pos h, h, ha]
  · rw [if_neg h]; exact congrFun (fix2 hb hc) y
theorem fix4 {m : Str → Option Value} {a b c d : Str} {va vb vc vd : Option Value} (ha : m a = va) (hb : m b = vb) (hc : m c = vc) (hd : m d = vd) : m = fun y => if y = a then va else if y = b then vb else if y = c then vc else if y = d then vd else m y := by
  funext y; by_cases h : y = a
  · rw [if_pos h, h, ha]
  · rw [if_neg h]; exact congrFun (fix3 hb hc hd) y
section
variable {prog : Program} {w : World} {A : Around} {E : Value → Shared → Prop} {s : Shared} {env : Env} {h₀ : Heap} {x : Str} {body : List Stmt} {Q : Flow → Shared → Prop}
theorem iter_listS {σ : Type} {l : Addr} {vs : List Value} {ns : List Int} {m₀ : Str → Option Value} {news : List (Addr × Obj)} (R : σ → (Str → Option Value) → List (Addr × Obj) → Prop) (g : σ → Int → σ) (c₀ : σ)
    (hh : A.handled = none) (hl : h₀.IsList l vs.toArray) (hi : IntsAre vs ns) (F : Fr h₀ env.locals s.heap m₀) (N : News h₀ env.locals s.heap news) (hj : R c₀ m₀ news)
    (turn : ∀ n t a m₁ news₁ h tk own, n ∈ ns → OwnOff own (news.map (·.1)) → R a m₁ news₁ → Fr h₀ env.locals h (fun y => if y = x then some (.int n t) else m₁ y) → News h₀ env.locals h (news₁ ++ own) →
      wpAny (model prog w) A (execs body env) (InvPostN h₀ env.locals (R (g a n)) own (news.map (·.1)) { s with heap := h, toks := tk } Q) E { s with heap := h, toks := tk })
    (done : ∀ m₁ news₁ h tk, R (ns.foldl g c₀) m₁ news₁ → Fr h₀ env.locals h m₁ → News h₀ env.locals h news₁ → Q .next { s with heap := h, toks := tk }) :
    wpAny (model prog w) A (pyIter (.ref l)) (fun it s₂ => LoopAtV prog w A h₀ env x body Q E it s₂) E s := by
  refine iter_invN (fun i m nx => R ((ns.take i).foldl g c₀) m nx) hh hl hi F N (by simpa using hj) ?_ ?_
  · intro i n t m₁ news₁ h tk own hn _ hsep hJ F₁ N₁
    have hs : (ns.take (i + 1)).foldl g c₀ = g ((ns.take i).foldl g c₀) n := by
      rw [List.take_add_one, hn]; simp
    rw [hs]
    exact turn n t _ m₁ news₁ h tk own (List.mem_of_getElem? hn) hsep hJ F₁ N₁
  · intro m₁ news₁ h tk hJ F₁ N₁
    rw [List.take_length] at hJ
    exact done m₁ news₁ h tk hJ F₁ N₁

theorem iter_rangeN {r : Addr} {a₀ b₀ : Int} {t₀ u₀ v₀ : Tok} {n : Nat} {m₀ : Str → Option Value} {news : List (Addr × Obj)}
    (J : Nat → (Str → Option Value) → List (Addr × Obj) → Prop)
    (hh : A.handled = none) (hr : IsRange s.heap r a₀ b₀ 1 t₀ u₀ v₀) (hsmall : Builtin.Range.small a₀ b₀ 1 = true) (hn : Builtin.Range.rangeSize a₀ b₀ 1 = (n : Int)) (F : Fr h₀ env.locals s.heap m₀) (N : News h₀ env.locals s.heap news) (hR : J 0 m₀ news)
    (turn : ∀ (i : Nat) t m₁ nx h tk own, i < n → OwnOff own (news.map (·.1)) → J i m₁ nx → Fr h₀ env.locals h (fun y => if y = x then some (.int (a₀ + (i : Int)) t) else m₁ y) → News h₀ env.locals h (nx ++ own) →
      wpAny (model prog w) A (execs body env) (InvPostN h₀ env.locals (J (i + 1)) own (news.map (·.1)) { s with heap := h, toks := tk } Q) E { s with heap := h, toks := tk })
    (done : ∀ m₁ nx h tk, J n m₁ nx → Fr h₀ env.locals h m₁ → News h₀ env.locals h nx → Q .next { s with heap := h, toks := tk }) :
    wpAny (model prog w) A (pyIter (.ref r)) (fun it s₂ => LoopAtV prog w A h₀ env x body Q E it s₂) E s := by
  refine wpAny_pyIter_range hr hsmall ?_
  have W : Walks prog w A s.heap.objs.size [s.heap.objs.size] [s.heap.objs.size] n (fun i v => i < n ∧ ∃ t, v = .int (a₀ + i * 1) t)
      (fun i h => IsRangeIter h s.heap.objs.size (a₀ + (i : Nat) * 1) ((n : Int) - (i : Nat)) 1) := (Walks.range hh _ a₀ 1 n).bound
  refine loop_invN J W ?_ ?_ ?_ ?_ (by show IsRangeIter _ _ _ _ _; rw [hn]; simpa using Heap.get?_push_size _ rfl) (F.push _) (fun p hp => ⟨Heap.get?_push_of_some _ (N p hp).1, (N p hp).2⟩) hR ?_ ?_
  · intro hm
    exact absurd F.ns.lt ((List.mem_singleton.mp hm) ▸ Nat.lt_irrefl _)
  · intro b hb
    rw [List.mem_singleton.mp hb]
    exact next_is_new F
  · intro p hp hI
    exact absurd (Heap.lt_size (N p hp).1) ((List.mem_singleton.mp hI) ▸ Nat.lt_irrefl _)
  · intro p hp hI
    exact absurd (Heap.lt_size (N p hp).1) ((List.mem_singleton.mp hI) ▸ Nat.lt_irrefl _)
  · rintro i v m₁ nx h tk own hi ⟨_, t, rfl⟩ _ ho hr' F' N'
    rw [Int.mul_one] at F'
    exact turn i t m₁ nx h tk own hi ho hr' F' N'
  · exact done

theorem iter_rangeG {r : Addr} {a₀ b₀ : Int} {t₀ u₀ v₀ : Tok} {n : Nat} {m₀ : Str → Option Value} {news : List (Addr × Obj)}
    (J : Nat → (Str → Option Value) → List (Addr × Obj) → Prop)
    (hh : A.handled = none) (hr : IsRange s.heap r a₀ b₀ 1 t₀ u₀ v₀) (hsmall : Builtin.Range.small a₀ b₀ 1 = true) (hn : Builtin.Range.rangeSize a₀ b₀ 1 = (n : Int)) (F : Fr h₀ env.locals s.heap m₀) (N : News h₀ env.locals s.heap news) (hj : J 0 m₀ news)
    (turn : ∀ (i : Nat) (I : Addr) t h tk m nx, i < n → J i m nx → AllNe I nx → Fr h₀ env.locals h (fun y => if y = x then some (.int (a₀ + (i : Int)) t) else m y) →
      News h₀ env.locals h ((I, itR (a₀ + ((i + 1 : Nat) : Int)) ((n : Int) - ((i + 1 : Nat) : Int))) :: nx) →
      wpAny (model prog w) A (execs body env) (UnrPost h₀ env.locals { s with heap := h, toks := tk } I (itR (a₀ + ((i + 1 : Nat) : Int)) ((n : Int) - ((i + 1 : Nat) : Int))) (J (i + 1)) Q) E { s with heap := h, toks := tk })
    (done : ∀ m nx h tk, J n m nx → Fr h₀ env.locals h m → News h₀ env.locals h nx → Q .next { s with heap := h, toks := tk }) :
    wpAny (model prog w) A (pyIter (.ref r)) (fun it s₂ => LoopAtV prog w A h₀ env x body Q E it s₂) E s := by
  refine iter_rangeUnr hh hr hsmall hn F N fun I hI => ?_
  have key : ∀ k i m nx, i + k = n → J i m nx → (∀ p ∈ nx, p.1 ≠ I) → RangeRest prog w A E h₀ env x body Q s I a₀ n k i m nx := by
    intro k
    induction k with
    | zero =>
      intro i m nx hik hJ _ h tk F' N'
      have : i = n := by omega
      subst this
      exact done m nx h tk hJ F' N'
    | succ k ih =>
      intro i m nx hik hJ hne
      refine RangeRest.succ fun t h tk F' N' => ?_
      refine wpAny_mono (turn i I t h tk m nx (by omega) hJ (allNe_of hne) F' N') (fun f s₂ hp => ?_) fun _ _ e => e
      have conv : UnrEnd h₀ env.locals { s with heap := h, toks := tk } I (itR (a₀ + ((i + 1 : Nat) : Int)) ((n : Int) - ((i + 1 : Nat) : Int))) (J (i + 1)) s₂ →
          UnrEnd h₀ env.locals { s with heap := h, toks := tk } I (itR (a₀ + ((i + 1 : Nat) : Int)) ((n : Int) - ((i + 1 : Nat) : Int))) (RangeRest prog w A E h₀ env x body Q s I a₀ n k (i + 1)) s₂ := by
        rintro ⟨h', tk', m', news', e, F₂, N₂, ho, hJ'⟩
        exact ⟨h', tk', m', news', e, F₂, N₂, ho, ih (i + 1) m' news' (by omega) hJ' ho⟩
      cases f with
      | ret v => exact hp
      | brk => exact hp
      | next => exact conv hp
      | cont => exact conv hp
  exact key n 0 m₀ news (by omega) hj fun p hp => Nat.ne_of_lt (hI p hp)
end
theorem len_known {prog : Program} {w : World} {A : Around} {E : Value → Shared → Prop} {s : Shared} {h₀ : Heap} {L D : Addr} {ws : List Value} {v n : Nat} {news : List (Addr × Obj)} {Q : Value → Shared → Prop} (N : News h₀ L s.heap news) (hm : (D, W.listOf ws.toArray v) ∈ news) (hs : ws.length = n) (hf : n ≤ 1000)
    (h : Q (.int (n : Nat) (s.toks + 1)) { s with toks := s.toks + 1 + 1 }) : wpAny (model prog w) A (call (.builtin "len") [.ref D]) Q E s :=
  KM.len_K N hm (by rw [List.size_toArray]; exact hs) (by omega) h
end Mine
end
section
open PySem PySem.W PyProof.Rows
set_option maxRecDepth 100000
namespace Mine
set_option maxRecDepth 100000 in
set_option maxHeartbeats 8000000 in
open_top hd for PySem.Challenge.rw_hn0001_01
end Mine
end
section
open PySem PySem.W PyProof.Rows PySem.Calls PySem.Spec
set_option maxRecDepth 100000
namespace Mine
section
variable {prog : Program} {w : World} {A : Around} {E : Value → Shared → Prop} {s : Shared} {env : Env} {h₀ : Heap} {L : Addr} {m : Str → Option Value}

noncomputable def Turns (prog : Program) (w : World) (A : Around) (env : Env) (h₀ : Heap) (L : Addr) (m : Str → Option Value) (news : List (Addr × Obj)) (scope : Scope) (cl : List (Str × Addr)) (x : Str) (ifs : List Expr) (elt : Expr) (ns : List Int) (p : Int → Bool) (g : Int → Int) (s₁ : Shared) : Prop :=
  (∀ C oC a t m₂ s₃ (E' : Value → Shared → Prop), a ∈ ns → LCg.NsObj oC m₂ → m₂ x = some (.int a t) → Fr h₀ L s₃.heap m → News h₀ L s₃.heap ((C, oC) :: news) → (∀ b o, s₁.heap.get? b = some o → s₃.heap.get? b = some o) →
    wpAny (model prog w) A (forIn ifs true fun c r => if r = true then do let ok ← isTrue c (compEnvC scope cl C env) (eval c (compEnvC scope cl C env)); pure (ForInStep.yield ok) else pure (ForInStep.yield r))
      (fun ok s₄ => ok = p a ∧ Keeps s₃ s₄) E' s₃) ∧
  (∀ C oC a t m₂ s₃ (E' : Value → Shared → Prop), a ∈ ns → p a = true → LCg.NsObj oC m₂ → m₂ x = some (.int a t) → Fr h₀ L s₃.heap m → News h₀ L s₃.heap ((C, oC) :: news) → (∀ b o, s₁.heap.get? b = some o → s₃.heap.get? b = some o) →
    wpAny (model prog w) A (eval elt (compEnvC scope cl C env)) (fun y s₄ => (∃ u, y = .int (g a) u) ∧ Keeps s₃ s₄) E' s₃)

noncomputable def pv (p : Int → Bool) : Value → Bool
  | .int a _ => p a
  | _ => false
noncomputable def Fv (g : Int → Int) (v y : Value) : Prop := ∃ a t u, v = .int a t ∧ y = .int (g a) u

theorem ints_out {ns : List Int} {p : Int → Bool} {g : Int → Int} : ∀ {vs ys : List Value}, IntsAre vs ns → Paired (Fv g) (vs.filter (pv p)) ys → IntsAre ys ((ns.filter p).map g) := by
  intro vs ys h
  induction h generalizing ys with
  | nil => intro h; cases h; exact .nil
  | cons n t _ ih =>
    intro h
    cases hp : p n with
    | false =>
      rw [List.filter_cons_of_neg (by simp [pv, hp])] at h
      rw [List.filter_cons_of_neg (by simp [hp])]
      exact ih h
    | true =>
      rw [List.filter_cons_of_pos (by simp [pv, hp])] at h
      rw [List.filter_cons_of_pos (by simp [hp]), List.map_cons]
      cases h with
      | cons h1 h2 =>
        obtain ⟨a, t', u, e, rfl⟩ := h1
        cases e
        exact .cons _ _ (ih h2)
theorem ints_of_get {ns : List Int} : ∀ {vs : List Value}, vs.length = ns.length → (∀ (j : Nat) v, vs[j]? = some v → ∃ a t, ns[j]? = some a ∧ v = .int a t) → IntsAre vs ns := by
  induction ns with
  | nil => intro vs h _; cases vs with
    | nil => exact .nil
    | cons => cases h
  | cons n r ih => intro vs h hp; cases vs with
    | nil => cases h
    | cons v vs =>
      obtain ⟨a, t, e1, rfl⟩ := hp 0 v rfl
      cases e1
      exact .cons _ _ (ih (by simpa using h) fun j v hv => hp (j + 1) v (by simpa using hv))

theorem keeps_news {h h' : Heap} {news : List (Addr × Obj)} (N : News h₀ L h news) (k : ∀ b o, h.get? b = some o → h'.get? b = some o) : News h₀ L h' news := fun p hp => ⟨k _ _ (N p hp).1, (N p hp).2⟩

theorem quiet_of {ns : List Int} {news : List (Addr × Obj)} {scope : Scope} {cl : List (Str × Addr)} {x : Str} {ifs : List Expr} {elt : Expr} {p : Int → Bool} {g : Int → Int} {wr : List Addr} {P : Nat → Value → Prop} {s₁ s₂ : Shared}
    (F : Fr h₀ L s₁.heap m) (N : News h₀ L s₁.heap news) (hsz : s₁.heap.objs.size ≤ s₂.heap.objs.size) (hk : ∀ b o, s₁.heap.get? b = some o → b ∉ wr ∧ s₂.heap.get? b = some o)
    (hP : ∀ i v, P i v → ∃ a t, ns[i]? = some a ∧ v = .int a t) (T : Turns prog w A env h₀ L m news scope cl x ifs elt ns p g s₁) :
    QuietOnC prog w A env scope cl x ifs elt wr P (pv p) (Fv g) s₂ := by
  have low : ∀ C, s₂.heap.objs.size ≤ C → h₀.get? C = none ∧ C ≠ L := fun C hC => ⟨by
      cases q : h₀.get? C with
      | none => rfl
      | some o => exact absurd (Heap.lt_size (F.keep C o q)) (Nat.not_lt.mpr (Nat.le_trans hsz hC)), fun e => absurd F.ns.lt (e ▸ Nat.not_lt.mpr (Nat.le_trans hsz hC))⟩
  constructor
  · intro C i v s₃ m₃ E' hC hPv hn hm hk3 _
    obtain ⟨a, t, ha, rfl⟩ := hP i v hPv
    obtain ⟨oC, eC, nC⟩ := LCg.ns_obj hn
    have up : ∀ b o, s₁.heap.get? b = some o → s₃.heap.get? b = some o := fun b o e => hk3 b o (hk b o e).1 (hk b o e).2
    refine wpAny_mono (T.1 C oC a t m₃ s₃ E' (List.mem_of_getElem? ha) nC hm (F.keeps up) ?_ up) (fun ok s₄ q => q) fun _ _ e => e
    intro q hq
    rcases List.mem_cons.mp hq with rfl | hq
    · exact ⟨eC, (low C hC).2, (low C hC).1⟩
    · exact keeps_news N up q hq
  · intro C i v s₃ m₃ E' hC hPv hp hn hm hk3 _
    obtain ⟨a, t, ha, rfl⟩ := hP i v hPv
    obtain ⟨oC, eC, nC⟩ := LCg.ns_obj hn
    have up : ∀ b o, s₁.heap.get? b = some o → s₃.heap.get? b = some o := fun b o e => hk3 b o (hk b o e).1 (hk b o e).2
    refine wpAny_mono (T.2 C oC a t m₃ s₃ E' (List.mem_of_getElem? ha) hp nC hm (F.keeps up) ?_ up) (fun y s₄ q => ?_) fun _ _ e => e
    · intro q hq
      rcases List.mem_cons.mp hq with rfl | hq
      · exact ⟨eC, (low C hC).2, (low C hC).1⟩
      · exact keeps_news N up q hq
    · obtain ⟨⟨u, rfl⟩, k⟩ := q
      exact ⟨⟨a, t, u, rfl, rfl⟩, k⟩

inductive SrcInts (s₁ : Shared) (xv : Value) : List Int → Prop
  | list {ax : Addr} {vs : List Value} {ns : List Int} : xv = .ref ax → s₁.heap.IsList ax vs.toArray → IntsAre vs ns → ns.length ≤ 1000 → SrcInts s₁ xv ns
  | range {r : Addr} {a b : Int} {t u v : Tok} {n : Nat} : xv = .ref r → IsRange s₁.heap r a b 1 t u v → Builtin.Range.small a b 1 = true → Builtin.Range.rangeSize a b 1 = (n : Int) → n ≤ 1000 → SrcInts s₁ xv (rangeKs a n)

theorem line1000 {n : Nat} (h : n ≤ 1000) : n ≤ sizeLine := Nat.le_trans h (by rw [sizeLine_eq]; omega)
theorem lt_push {h : Heap} {o : Obj} {b : Addr} (hb : b < h.objs.size) : b < (h.push o).objs.size := by rw [Heap.size_push]; exact Nat.lt_succ_of_lt hb

theorem src_walk {ns : List Int} {xv : Value} {s₁ : Shared} (hh : A.handled = none) (S : SrcInts s₁ xv ns) {Q : Value → Shared → Prop}
    (h : ∀ I fp P St s₂, Walks prog w A I fp [I] ns.length P St → St 0 s₂.heap → (∃ o, s₂ = { s₁ with heap := s₁.heap.push o }) → (∀ b ∈ fp, b < s₂.heap.objs.size) → I = s₁.heap.objs.size →
      (∀ i v, P i v → ∃ a t, ns[i]? = some a ∧ v = .int a t) → Q (.ref I) s₂) : wpAny (model prog w) A (pyIter xv) Q E s₁ := by
  cases S with
  | @list ax vs _ e hl hi hz =>
    subst e
    obtain ⟨ol, hol, _⟩ := id hl
    have hlt : ax < s₁.heap.objs.size := Heap.lt_size hol
    refine wpAny_pyIter_list hl ?_
    have W := Walks.list (prog := prog) (w := w) hh s₁.heap.objs.size ax (Nat.ne_of_lt hlt) vs.toArray
    have hlen : vs.toArray.size = ns.length := by simp [hi.length]
    rw [hlen] at W
    refine h _ _ _ _ { s₁ with heap := s₁.heap.push _ } W ⟨⟨_, Heap.get?_push_size _ rfl, rfl, rfl⟩, hl.push _⟩ ⟨_, rfl⟩ (fun b hb => ?_) rfl fun i v hv => ?_
    · show b < (s₁.heap.push _).objs.size
      rcases List.mem_cons.mp hb with rfl | hb
      · rw [Heap.size_push]; exact Nat.lt_succ_self _
      · rw [List.mem_singleton.mp hb]; exact lt_push hlt
    · have hv' : vs[i]? = some v := by simpa using hv
      have hlt' : i < ns.length := by
        rw [← hi.length]
        exact (List.getElem?_eq_some_iff.mp hv').1
      obtain ⟨t, hx⟩ := hi.get i ns[i] (by simp [hlt'])
      rw [hx] at hv'
      exact ⟨ns[i], t, by simp [hlt'], (Option.some.inj hv').symm⟩
  | @range r a b t u v n e hr hsm hn hz =>
    subst e
    refine wpAny_pyIter_range hr hsm ?_
    have W : Walks prog w A s₁.heap.objs.size [s₁.heap.objs.size] [s₁.heap.objs.size] n (fun i v => i < n ∧ ∃ t, v = .int (a + i * 1) t)
      (fun i h => IsRangeIter h s₁.heap.objs.size (a + (i : Nat) * 1) ((n : Int) - (i : Nat)) 1) := (Walks.range hh _ a 1 n).bound
    have hlen : n = (rangeKs a n).length := (rangeKs_length a n).symm
    refine h _ _ _ _ { s₁ with heap := s₁.heap.push _ } (by rw [rangeKs_length]; exact W) (by show IsRangeIter _ _ _ _ _; rw [hn]; simpa using Heap.get?_push_size _ rfl) ⟨_, rfl⟩ (fun b hb => ?_) rfl fun i v hv => ?_
    · rw [List.mem_singleton.mp hb]
      show s₁.heap.objs.size < (s₁.heap.push _).objs.size
      rw [Heap.size_push]; exact Nat.lt_succ_self _
    · obtain ⟨hi, t, rfl⟩ := hv
      refine ⟨a + (i : Int), t, by simp [rangeKs, hi], by simp⟩
theorem SrcInts.len {ns : List Int} {xv : Value} {s₁ : Shared} (S : SrcInts s₁ xv ns) : ns.length ≤ 1000 := by
  cases S with
  | list _ _ _ h => exact h
  | range _ _ _ _ h => rw [rangeKs_length]; exact h

noncomputable def ListOut (h₀ : Heap) (L : Addr) (m : Str → Option Value) (news : List (Addr × Obj)) (s₁ : Shared) (ns : List Int) (D : Addr) (h' : Heap) : Prop :=
  Fr h₀ L h' m ∧ (∃ ys v, News h₀ L h' ((D, W.listOf (List.toArray ys) v) :: news) ∧ IntsAre ys ns) ∧ (∀ p ∈ news, p.1 ≠ D) ∧ (∀ b o, s₁.heap.get? b = some o → h'.get? b = some o) ∧ s₁.heap.get? D = none ∧ D ≠ L

theorem get?_none_push {h : Heap} {o : Obj} {b : Addr} (e : (h.push o).get? b = none) : h.get? b = none := by
  cases q : h.get? b with
  | none => rfl
  | some o' => rw [Heap.get?_push_of_some o q] at e; cases e

theorem comp_eval {elt iter : Expr} {x : Str} {px : Pos} {ifs : List Expr} {scope : Scope} {cl : List (Str × Addr)} {pos : Pos} {Q : Value → Shared → Prop} (F₀ : Fr h₀ L s.heap m) (p : Int → Bool) (g : Int → Int) (hh : A.handled = none)
    (hclos : closureFor scope env = pure cl) (hcell : ∀ y ∈ scope.names, y.2 ≠ .cell) (hkind : scope.kind = .function)
    (hnames : ∀ y ∈ scope.names, y.2 = .local → scope.names.lookup y.1 = some .local) (hx : scope.names.lookup x = some .local)
    (h : wpAny (model prog w) A (eval iter env) (fun xv s₁ => ∃ ns news, SrcInts s₁ xv ns ∧ Fr h₀ L s₁.heap m ∧ News h₀ L s₁.heap news ∧ Turns prog w A env h₀ L m news scope cl x ifs elt ns p g s₁ ∧
      (∀ D h' tk, ListOut h₀ L m news s₁ ((ns.filter p).map g) D h' → Q (.ref D) { s₁ with heap := h', toks := tk })) E s)
    (hs : ∀ x, foldedSetIterable iter env x = pure x := by intro _; rfl) :
    wpAny (model prog w) A (eval (.ListComp elt [⟨.Name x px, iter, ifs, 0⟩] scope pos) env) Q E s := by
  refine wpAny_ListComp_free (pv p) (Fv g) hclos hcell hkind hnames hx (wpAny_mono h (fun xv s₁ h₁ => ?_) fun _ _ e => e) hs
  obtain ⟨ns, news, S, F, N, T, hQ⟩ := h₁
  refine src_walk hh S fun I fp P St s₂ W st hs₂ hfp hI hP => ?_
  obtain ⟨o, rfl⟩ := hs₂
  refine ⟨I, fp, [I], ns.length, P, St, rfl, W, line1000 S.len, st, hfp, ?_, ?_⟩
  · exact quiet_of F N (by show _ ≤ (s₁.heap.push _).objs.size; rw [Heap.size_push]; exact Nat.le_succ _) (fun b o e => ⟨fun hm => absurd (Heap.lt_size e) (by rw [List.mem_singleton.mp hm, hI]; exact Nat.lt_irrefl _), Heap.get?_push_of_some _ e⟩) hP T
  · intro D h' tk ys vs hD hl hpl hlen hPv hF hk
    have up : ∀ b o, s₁.heap.get? b = some o → h'.get? b = some o := fun b o e => hk b o (fun hm => absurd (Heap.lt_size e) (by rw [List.mem_singleton.mp hm, hI]; exact Nat.lt_irrefl _)) (Heap.get?_push_of_some _ e)
    obtain ⟨v, eD⟩ := hpl
    have hD' : s₁.heap.get? D = none := get?_none_push hD
    have hDL : D ≠ L := by
      rintro rfl
      obtain ⟨oL, _, _, eL, _⟩ := F.ns
      rw [hD'] at eL; cases eL
    refine hQ D h' tk ⟨F.keeps up, ⟨ys.toList, v, fun q hq => ?_, ints_out (ints_of_get hlen fun j v hv => hP j v (hPv j v hv)) hF⟩, fun q hq e => ?_, up, hD', hDL⟩
    · rcases List.mem_cons.mp hq with rfl | hq
      · refine ⟨eD, hDL, ?_⟩
        cases q : h₀.get? D with
        | none => rfl
        | some o => rw [F.keep _ _ q] at hD'; cases hD'
      · exact keeps_news N up q hq
    · rw [← e, (N q hq).1] at hD'; cases hD'

theorem comp_assign {elt iter : Expr} {x y : Str} {px py : Pos} {ifs : List Expr} {scope : Scope} {cl : List (Str × Addr)} {pos spos : Pos} {Q : Flow → Shared → Prop} (F₀ : Fr h₀ L s.heap m) (p : Int → Bool) (g : Int → Int) (hh : A.handled = none) (hL : env.locals = L)
    (hsw : swapsWith (.ListComp elt [⟨.Name x px, iter, ifs, 0⟩] scope pos) (some (.Name y py)) spos.line env = pure true)
    (hclos : closureFor scope env = pure cl) (hcell : ∀ y ∈ scope.names, y.2 ≠ .cell) (hkind : scope.kind = .function)
    (hnames : ∀ y ∈ scope.names, y.2 = .local → scope.names.lookup y.1 = some .local) (hx : scope.names.lookup x = some .local)
    (hy : env.kindOf y = some .local) (hp : (env.scope.kind == .class || (env.scope.kind == .module && env.locals != env.globals)) = false)
    (h : wpAny (model prog w) A (eval iter env) (fun xv s₁ => ∃ ns news, SrcInts s₁ xv ns ∧ Fr h₀ L s₁.heap m ∧ News h₀ L s₁.heap news ∧ Turns prog w A env h₀ L m news scope cl x ifs elt ns p g s₁ ∧
      (∀ D h' tk, Fr h₀ L h' (fun z => if z = y then some (.ref D) else m z) → (∃ ys v, News h₀ L h' ((D, W.listOf (List.toArray ys) v) :: news) ∧ IntsAre ys ((ns.filter p).map g)) → (∀ p ∈ news, p.1 ≠ D) → Q .next { s₁ with heap := h', toks := tk })) E s)
    (hs : ∀ x, foldedSetIterable iter env x = pure x := by intro _; rfl) :
    wpAny (model prog w) A (exec (.Assign [.Name y py] (.ListComp elt [⟨.Name x px, iter, ifs, 0⟩] scope pos) spos) env) Q E s := by
  subst hL
  refine wpAny_Assign_ListComp_free (pv p) (Fv g) hsw hclos hcell hkind hnames hx hy hp (wpAny_mono h (fun xv s₁ h₁ => ?_) fun _ _ e => e) hs
  obtain ⟨ns, news, S, F, N, T, hQ⟩ := h₁
  refine src_walk hh S fun I fp P St s₂ W st hs₂ hfp hI hP => ?_
  obtain ⟨o, rfl⟩ := hs₂
  have hLI : env.locals ∉ [I] := fun hm => absurd F.ns.lt (by rw [List.mem_singleton.mp hm, hI]; exact Nat.lt_irrefl _)
  refine ⟨I, fp, [I], ns.length, P, St, m, rfl, W, line1000 S.len, st, hfp, hLI, F.ns.keeps fun b o e => Heap.get?_push_of_some _ e, ?_, ?_⟩
  · exact quiet_of F N (by show _ ≤ (s₁.heap.push _).objs.size; rw [Heap.size_push]; exact Nat.le_succ _) (fun b o e => ⟨fun hm => absurd (Heap.lt_size e) (by rw [List.mem_singleton.mp hm, hI]; exact Nat.lt_irrefl _), Heap.get?_push_of_some _ e⟩) hP T
  · intro D h' tk ys vs hD hl hpl hlen hPv hF hn hk
    have up : ∀ b o, b ≠ env.locals → s₁.heap.get? b = some o → h'.get? b = some o := fun b o hb e => hk b o hb (fun hm => absurd (Heap.lt_size e) (by rw [List.mem_singleton.mp hm, hI]; exact Nat.lt_irrefl _)) (Heap.get?_push_of_some _ e)
    obtain ⟨v, eD⟩ := hpl
    have hD' : s₁.heap.get? D = none := get?_none_push hD
    have hDL : D ≠ env.locals := by
      rintro rfl
      obtain ⟨oL, _, _, eL, _⟩ := F.ns
      rw [hD'] at eL; cases eL
    have hL₀ : h₀.get? env.locals = none := Heap.get?_none_of_le F.above
    refine hQ D h' tk ⟨hn, fun b o e => up b o (fun q => by rw [q, hL₀] at e; cases e) (F.keep b o e), F.above⟩ ⟨ys.toList, v, fun q hq => ?_, ints_out (ints_of_get hlen fun j v hv => hP j v (hPv j v hv)) hF⟩ fun q hq e => ?_
    · rcases List.mem_cons.mp hq with rfl | hq
      · refine ⟨eD, hDL, ?_⟩
        cases q : h₀.get? D with
        | none => rfl
        | some o => rw [F.keep _ _ q] at hD'; cases hD'
      · exact ⟨up _ _ (N q hq).2.1 (N q hq).1, (N q hq).2⟩
    · rw [← e, (N q hq).1] at hD'; cases hD'
end
end Mine
end
section
open PySem PySem.W PyProof.Rows PySem.Calls PySem.Spec
set_option maxRecDepth 100000
namespace Mine
theorem turn0 (elt t1 i1 t2 i2 : Expr) (ifs : List Expr) (scope : Scope) (pos : Pos) (it acc : Value) (env : Env) :
    compTurn (.ListComp elt [⟨t1, i1, [], 0⟩, ⟨t2, i2, ifs, 0⟩] scope pos) 0 it acc env = (do
      standAt i1.pos
      match ← pyNext it with
      | none => pure (.done .next)
      | some v =>
        letOwnedTupleGo t1 it v
        assign t1 env v
        let x ← eval i2 env
        standAt i2.pos
        let x ← foldedSetIterable i2 env x
        let _ ← runOwn (.compStart (.ListComp elt [⟨t1, i1, [], 0⟩, ⟨t2, i2, ifs, 0⟩] scope pos) 1 (← holding [x] (pyIter x)) acc env) env
        again (.compLoop (.ListComp elt [⟨t1, i1, [], 0⟩, ⟨t2, i2, ifs, 0⟩] scope pos) 0 it acc env)) := by rfl
theorem turn1 (elt t1 i1 t2 i2 : Expr) (ifs : List Expr) (scope : Scope) (pos : Pos) (it acc : Value) (env : Env) :
    compTurn (.ListComp elt [⟨t1, i1, [], 0⟩, ⟨t2, i2, ifs, 0⟩] scope pos) 1 it acc env = (do
      standAt i2.pos
      match ← pyNext it with
      | none => pure (.done .next)
      | some v =>
        letOwnedTupleGo t2 it v
        assign t2 env v
        let mut ok := true
        for c in ifs do
          if ok then ok ← isTrue c env (eval c env)
        if ok then
          (do let _ ← call (.builtin "list.append") [acc, ← eval elt env])
        again (.compLoop (.ListComp elt [⟨t1, i1, [], 0⟩, ⟨t2, i2, ifs, 0⟩] scope pos) 1 it acc env)) := by rfl
section
variable {prog : Program} {w : World} {A : Around} {R : Result → Shared → Prop} {s : Shared}

theorem start1 {elt t1 i1 t2 i2 : Expr} {ifs : List Expr} {scope : Scope} {pos : Pos} {it acc : Value} {env : Env}
    (h0 : codeAny (model prog w) A (.compLoop (.ListComp elt [⟨t1, i1, [], 0⟩, ⟨t2, i2, ifs, 0⟩] scope pos) 1 it acc env) R s)
    (h : wpAny (model prog w) A (pyIter it) (fun it' s' => codeAny (model prog w) A (.compLoop (.ListComp elt [⟨t1, i1, [], 0⟩, ⟨t2, i2, ifs, 0⟩] scope pos) 1 it' acc env) R s')
      (notedBy (model prog w) A env fun x s' => R (.error x) s') s) :
    codeAny (model prog w) A (.compStart (.ListComp elt [⟨t1, i1, [], 0⟩, ⟨t2, i2, ifs, 0⟩] scope pos) 1 it acc env) R s := by
  refine codeAny_of_tree ?_
  show wpAny _ _ ((compStart (.ListComp elt [⟨t1, i1, [], 0⟩, ⟨t2, i2, ifs, 0⟩] scope pos) 1 it acc env).onRaise (fun x => do noteFrame x env; standAt theWindowsPlace)) _ _ s
  refine wpAny_notedAt ?_
  unfold compStart
  show wpAny _ _ (ask >>= _) _ _ s
  refine wpAny_bind (wpAny_askSetting (wpAny_ite ?_))
  split
  · first
      | exact wpAny_bind (wpAny_pure (wpAny_pure (And.intro rfl h0)))
      | exact wpAny_pure (And.intro rfl h0)
  · first
      | exact wpAny_bind (wpAny_rule (wpAny_bind (wpAny_standAt (wpAny_bind (wpAny_mono h (fun it' s' h' => wpAny_pure (And.intro rfl h')) fun _ _ x => x)))))
      | (refine wpAny_bind (wpAny_rule ?_); show wpAny _ _ (standAt i2.pos >>= _) _ _ s; exact wpAny_bind (wpAny_standAt (wpAny_bind (wpAny_mono h (fun it' s' h' => wpAny_pure (And.intro rfl h')) fun _ _ x => x))))

theorem loop1 {elt t1 i1 target iter : Expr} {ifs : List Expr} {scope : Scope} {pos : Pos} {it acc : Value} {env : Env} (I : Nat → Shared → Prop)
    (turn : ∀ n s, I n s → wpAny (model prog w) A (pyNext it) (fun r s₁ => match r with
      | none => R (.ok .next) s₁
      | some v => wpAny (model prog w) A (assign target env v) (fun _ s₂ =>
          wpAny (model prog w) A (forIn ifs true fun c r => if r = true then do let ok ← isTrue c env (eval c env); pure (ForInStep.yield ok) else pure (ForInStep.yield r)) (fun ok s₃ =>
            if ok = true then wpAny (model prog w) A (eval elt env) (fun x s₄ =>
              wpAny (model prog w) A (call (.builtin "list.append") [acc, x]) (fun _ s₅ => ∃ m, m < n ∧ I m s₅) (notedBy (model prog w) A env fun e s' => R (.error e) s') s₄) (notedBy (model prog w) A env fun e s' => R (.error e) s') s₃
            else ∃ m, m < n ∧ I m s₃) (notedBy (model prog w) A env fun e s' => R (.error e) s') s₂) (notedBy (model prog w) A env fun e s' => R (.error e) s') s₁) (notedBy (model prog w) A env fun e s' => R (.error e) s') s)
    (n : Nat) (h : I n s) (ht : ∀ v, letOwnedTupleGo target it v = pure () := by intro _; rfl) :
    codeAny (model prog w) A (.compLoop (.ListComp elt [⟨t1, i1, [], 0⟩, ⟨target, iter, ifs, 0⟩] scope pos) 1 it acc env) R s := by
  refine codeAny_loop rfl I (fun n s hI => ?_) n h
  show wpAny _ A ((compTurn (.ListComp elt [⟨t1, i1, [], 0⟩, ⟨target, iter, ifs, 0⟩] scope pos) 1 it acc env).onRaise (fun x => do noteFrame x env; theTreesLotGoes x)) _ _ s
  refine wpAny_noted ?_
  rw [turn1]
  refine wpAny_bind (wpAny_standAt (wpAny_bind (wpAny_mono (turn n s hI) (fun r s₁ h₁ => ?_) fun _ _ h' => h')))
  cases r with
  | none => exact wpAny_pure h₁
  | some v =>
    refine wpAny_bind (wpAny_of_eq (ht v) ?_)
    refine wpAny_bind (wpAny_mono h₁ (fun _ s₂ h₂ => wpAny_bind (wpAny_mono h₂ (fun ok s₃ h₃ => ?_) fun _ _ h' => h')) fun _ _ h' => h')
    cases ok with
    | false => exact wpAny_pure ⟨rfl, h₃⟩
    | true =>
      exact wpAny_bind (wpAny_bind (wpAny_mono h₃ (fun x s₄ h₄ => wpAny_bind (wpAny_mono h₄ (fun _ s₅ h₅ => wpAny_pure (wpAny_pure ⟨rfl, h₅⟩)) fun _ _ h' => h')) fun _ _ h' => h'))

theorem loop0 {elt t1 i1 t2 i2 : Expr} {ifs : List Expr} {scope : Scope} {pos : Pos} {it acc : Value} {env : Env} (I : Nat → Shared → Prop)
    (turn : ∀ n s, I n s → wpAny (model prog w) A (pyNext it) (fun r s₁ => match r with
      | none => R (.ok .next) s₁
      | some v => wpAny (model prog w) A (assign t1 env v) (fun _ s₂ =>
          wpAny (model prog w) A (eval i2 env) (fun x s₃ => wpAny (model prog w) A (pyIter x) (fun it2 s₄ =>
            codeAny (model prog w) A (.compStart (.ListComp elt [⟨t1, i1, [], 0⟩, ⟨t2, i2, ifs, 0⟩] scope pos) 1 it2 acc env) (fun r s₅ => match r with
              | .ok _ => ∃ m, m < n ∧ I m s₅
              | .error _ => False) s₄) (notedBy (model prog w) A env fun e s' => R (.error e) s') s₃) (notedBy (model prog w) A env fun e s' => R (.error e) s') s₂) (notedBy (model prog w) A env fun e s' => R (.error e) s') s₁) (notedBy (model prog w) A env fun e s' => R (.error e) s') s)
    (n : Nat) (h : I n s) (ht : ∀ v, letOwnedTupleGo t1 it v = pure () := by intro _; rfl) (hs : ∀ x, foldedSetIterable i2 env x = pure x) :
    codeAny (model prog w) A (.compLoop (.ListComp elt [⟨t1, i1, [], 0⟩, ⟨t2, i2, ifs, 0⟩] scope pos) 0 it acc env) R s := by
  refine codeAny_loop rfl I (fun n s hI => ?_) n h
  show wpAny _ A ((compTurn (.ListComp elt [⟨t1, i1, [], 0⟩, ⟨t2, i2, ifs, 0⟩] scope pos) 0 it acc env).onRaise (fun x => do noteFrame x env; theTreesLotGoes x)) _ _ s
  refine wpAny_noted ?_
  rw [turn0]
  refine wpAny_bind (wpAny_standAt (wpAny_bind (wpAny_mono (turn n s hI) (fun r s₁ h₁ => ?_) fun _ _ h' => h')))
  cases r with
  | none => exact wpAny_pure h₁
  | some v =>
    refine wpAny_bind (wpAny_of_eq (ht v) ?_)
    refine wpAny_bind (wpAny_mono h₁ (fun _ s₂ h₂ => wpAny_bind (wpAny_mono h₂ (fun x s₃ h₃ => wpAny_bind (wpAny_standAt (wpAny_bind (wpAny_of_eq (hs x) ?_)))) fun _ _ h' => h')) fun _ _ h' => h')
    refine wpAny_bind (wpAny_holding (wpAny_mono h₃ (fun it2 s₄ h₄ => ?_) fun _ _ h' => h'))
    refine wpAny_bind (wpAny_runOwn (h := none) (codeAny_mono h₄ fun r s₅ h₅ => ?_))
    cases r with
    | ok f => exact wpAny_pure ⟨rfl, h₅⟩
    | error e => exact h₅.elim

theorem ints_snoc {ys : List Value} {zs : List Int} (h : IntsAre ys zs) (a : Int) (t : Tok) : IntsAre (ys ++ [.int a t]) (zs ++ [a]) := by
  induction h with
  | nil => exact .cons _ _ .nil
  | cons n u _ ih => exact .cons _ _ ih

theorem inner_walk {elt t1 i1 iter : Expr} {x y : Str} {py : Pos} {ifs : List Expr} {scope : Scope} {pos : Pos} {I D : Addr} {fp : List Addr} {P : Nat → Value → Prop} {St : Nat → Heap → Prop} {cenv : Env} {m : Str → Option Value} {ks zs : List Int} {vx : Value} {ys : List Value}
    (W : Walks prog w A I fp [I] ks.length P St) (hPk : ∀ i v, P i v → ∃ a t, ks[i]? = some a ∧ v = .int a t) (p : Int → Bool) (g : Int → Int)
    (hy : cenv.kindOf y = some .local) (hp : (cenv.scope.kind == .class || (cenv.scope.kind == .module && cenv.locals != cenv.globals)) = false) (hxy : x ≠ y)
    (hDC : D ≠ cenv.locals) (hDf : D ∉ fp) (hCf : cenv.locals ∉ fp) (hst : St 0 s.heap) (hacc : s.heap.PlainList D ys.toArray) (hys : IntsAre ys zs) (hn : s.heap.Ns cenv.locals m) (hmx : m x = some vx) (hlen : zs.length + ks.length ≤ 1000)
    (htests : ∀ k u s₂ m₂ (E' : Value → Shared → Prop), k ∈ ks → s₂.heap.Ns cenv.locals m₂ → m₂ x = some vx → m₂ y = some (.int k u) → (∀ b o, b ≠ cenv.locals → b ≠ I → b ≠ D → s.heap.get? b = some o → s₂.heap.get? b = some o) →
      wpAny (model prog w) A (forIn ifs true fun c r => if r = true then do let ok ← isTrue c cenv (eval c cenv); pure (ForInStep.yield ok) else pure (ForInStep.yield r)) (fun ok s₃ => ok = p k ∧ Keeps s₂ s₃) E' s₂)
    (helt : ∀ k u s₂ m₂ (E' : Value → Shared → Prop), k ∈ ks → p k = true → s₂.heap.Ns cenv.locals m₂ → m₂ x = some vx → m₂ y = some (.int k u) → (∀ b o, b ≠ cenv.locals → b ≠ I → b ≠ D → s.heap.get? b = some o → s₂.heap.get? b = some o) →
      wpAny (model prog w) A (eval elt cenv) (fun y s₃ => (∃ u, y = .int (g k) u) ∧ Keeps s₂ s₃) E' s₂)
    (hR : ∀ h' tk m' ys', h'.Ns cenv.locals m' → h'.PlainList D (List.toArray ys') → IntsAre ys' (zs ++ (ks.filter p).map g) → (∀ b o, b ≠ cenv.locals → b ≠ I → b ≠ D → s.heap.get? b = some o → h'.get? b = some o) → R (.ok .next) { s with heap := h', toks := tk }) :
    codeAny (model prog w) A (.compLoop (.ListComp elt [⟨t1, i1, [], 0⟩, ⟨.Name y py, iter, ifs, 0⟩] scope pos) 1 (.ref I) (.ref D) cenv) R s := by
  have hIf : I ∈ fp := W.sub I (List.mem_singleton.mpr rfl)
  have hDI : D ≠ I := fun e => hDf (e ▸ hIf)
  have hCI : cenv.locals ≠ I := fun e => hCf (e ▸ hIf)
  refine loop1
    (fun k s' => ∃ h' tk i m' ys', s' = { s with heap := h', toks := tk } ∧ i ≤ ks.length ∧ k = ks.length + 1 - i ∧ St i h' ∧ h'.PlainList D (List.toArray ys') ∧ IntsAre ys' (zs ++ ((ks.take i).filter p).map g) ∧ h'.Ns cenv.locals m' ∧ m' x = some vx ∧
      ∀ b o, b ≠ cenv.locals → b ≠ I → b ≠ D → s.heap.get? b = some o → h'.get? b = some o) ?_ (ks.length + 1)
    ⟨s.heap, s.toks, 0, m, ys, rfl, Nat.zero_le _, rfl, hst, hacc, by simpa using hys, hn, hmx, fun _ _ _ _ _ e => e⟩
  rintro k s' ⟨H, tk, i, m', ys', rfl, hi, rfl, hst', hacc', hys', hn', hm', hk⟩
  by_cases hlt : i < ks.length
  · refine W.item i _ _ _ hlt hst' fun v h₁ tk₁ hPv hst₁ hk₁ => ?_
    obtain ⟨a, t, ha, rfl⟩ := hPk i v hPv
    have ham : a ∈ ks := List.mem_of_getElem? ha
    refine wpAny_assign_Name (wpAny_storeName_local hy (hn'.at' fun o e => hk₁ _ o (by simpa using hCI) e) (fun h₂ hn₂ hs₂ => ?_) hp)
    have up₂ : ∀ b o, b ≠ cenv.locals → b ≠ I → H.get? b = some o → h₂.get? b = some o := fun b o hb hbI e => hs₂.extBut b o hb (hk₁ b o (by simpa using hbI) e)
    have hst₂ : St (i + 1) h₂ := W.frame _ _ _ hst₁ fun b hb o e => hs₂.extBut b o (fun q => hCf (q ▸ hb)) e
    have hmx₂ : (fun z => if z = y then some (Value.int a t) else m' z) x = some vx := by rw [← hm']; exact if_neg hxy
    have hmy₂ : (fun z => if z = y then some (Value.int a t) else m' z) y = some (Value.int a t) := if_pos rfl
    refine wpAny_mono (htests a t _ _ _ ham hn₂ hmx₂ hmy₂ fun b o hbC hbI hbD e => up₂ b o hbC hbI (hk b o hbC hbI hbD e)) (fun ok s₃ h₃ => ?_) fun _ _ e => e
    obtain ⟨rfl, h₃, tk₃, rfl, hk₃⟩ := h₃
    have up₃ : ∀ b o, b ≠ cenv.locals → b ≠ I → H.get? b = some o → h₃.get? b = some o := fun b o hb hbI e => hk₃ b o (up₂ b o hb hbI e)
    have hst₃ : St (i + 1) h₃ := W.frame _ _ _ hst₂ fun b _ o e => hk₃ b o e
    have hacc₃ : h₃.PlainList D (List.toArray ys') := hacc'.at fun o e => up₃ D o hDC hDI e
    have hn₃ := hn₂.keeps hk₃
    have hstep : (ks.take (i + 1)).filter p = (ks.take i).filter p ++ (if p a then [a] else []) := take_succ_filter p _ i a ha
    cases hpv : p a with
    | false =>
      simp only [Bool.false_eq_true, if_false]
      refine ⟨ks.length + 1 - (i + 1), by omega, h₃, tk₃, i + 1, _, ys', rfl, hlt, rfl, hst₃, hacc₃, ?_, hn₃, hmx₂, fun b o hbC hbI hbD e => up₃ b o hbC hbI (hk b o hbC hbI hbD e)⟩
      rw [hstep, hpv]; simpa using hys'
    | true =>
      simp only [if_true]
      refine wpAny_mono (helt a t _ _ _ ham hpv hn₃ hmx₂ hmy₂ fun b o hbC hbI hbD e => up₃ b o hbC hbI (hk b o hbC hbI hbD e)) (fun yv s₄ h₄ => ?_) fun _ _ e => e
      obtain ⟨⟨u, rfl⟩, h₄, tk₄, rfl, hk₄⟩ := h₄
      obtain ⟨nv, eD⟩ := hacc₃
      have hsz : ys'.length ≤ 1000 := by
        rw [hys'.length, List.length_append, List.length_map]
        have := List.length_filter_le p (ks.take i)
        have := List.length_take_le i ks
        have : (ks.take i).length ≤ ks.length := by rw [List.length_take]; omega
        omega
      refine append_at (hsz := by show (List.toArray ys').size ≤ sizeLine; rw [List.size_toArray]; exact line1000 hsz) (hk₄ _ _ eD) fun h₅ hs₅ hD₅ => ?_
      have up₅ : ∀ b o, b ≠ cenv.locals → b ≠ I → b ≠ D → H.get? b = some o → h₅.get? b = some o := fun b o hb hbI hbD e => hs₅.extBut b o hbD (hk₄ b o (up₃ b o hb hbI e))
      refine ⟨ks.length + 1 - (i + 1), by omega, h₅, tk₄, i + 1, _, ys' ++ [.int (g a) u], rfl, hlt, rfl, W.frame _ _ _ hst₃ fun b hb o e => hs₅.extBut b o (fun q => hDf (q ▸ hb)) (hk₄ b o e), ⟨nv + 1, by rw [hD₅, List.push_toArray]⟩, ?_,
        (hn₃.keeps hk₄).sameBut hs₅ (Ne.symm hDC), hmx₂, fun b o hbC hbI hbD e => up₅ b o hbC hbI hbD (hk b o hbC hbI hbD e)⟩
      rw [hstep, hpv]
      simp only [if_true, List.map_append, List.map_cons, List.map_nil]
      rw [← List.append_assoc]
      exact ints_snoc hys' _ _
  · obtain rfl : i = ks.length := Nat.le_antisymm hi (Nat.not_lt.mp hlt)
    refine W.done _ _ _ hst' fun h₁ tk₁ hk₁ => ?_
    rw [List.take_length] at hys'
    exact hR h₁ tk₁ m' ys' (hn'.at' fun o e => hk₁ _ o (by simpa using hCI) e) (hacc'.at fun o e => hk₁ _ o (by simpa using hDI) e) hys' fun b o hbC hbI hbD e => hk₁ b o (by simpa using hbI) (hk b o hbC hbI hbD e)

end
section
variable {prog : Program} {w : World} {A : Around} {E : Value → Shared → Prop} {s : Shared} {env : Env} {h₀ : Heap} {L : Addr} {m : Str → Option Value}
noncomputable def SrcRange (s₁ : Shared) (xv : Value) (ks : List Int) : Prop := ∃ r a b t u v n, xv = .ref r ∧ IsRange s₁.heap r a b 1 t u v ∧ Builtin.Range.small a b 1 = true ∧ Builtin.Range.rangeSize a b 1 = ((n : Nat) : Int) ∧ ks = rangeKs a n

noncomputable def Turns2 (prog : Program) (w : World) (A : Around) (env : Env) (h₀ : Heap) (L : Addr) (m : Str → Option Value) (news : List (Addr × Obj)) (scope : Scope) (cl : List (Str × Addr)) (x y : Str) (i2 : Expr) (ifs : List Expr) (elt : Expr) (ns ks : List Int) (p : Int → Int → Bool) (g : Int → Int → Int) (s₁ : Shared) : Prop :=
  (∀ C oC a t m₂ s₃ (E' : Value → Shared → Prop), a ∈ ns → LCg.NsObj oC m₂ → m₂ x = some (.int a t) → Fr h₀ L s₃.heap m → News h₀ L s₃.heap ((C, oC) :: news) → (∀ b o, s₁.heap.get? b = some o → s₃.heap.get? b = some o) →
    wpAny (model prog w) A (eval i2 (compEnvC scope cl C env)) (fun xv s₄ => SrcRange s₄ xv ks ∧ Keeps s₃ s₄) E' s₃) ∧
  (∀ C oC a t k u m₂ s₃ (E' : Value → Shared → Prop), a ∈ ns → k ∈ ks → LCg.NsObj oC m₂ → m₂ x = some (.int a t) → m₂ y = some (.int k u) → Fr h₀ L s₃.heap m → News h₀ L s₃.heap ((C, oC) :: news) → (∀ b o, s₁.heap.get? b = some o → s₃.heap.get? b = some o) →
    wpAny (model prog w) A (forIn ifs true fun c r => if r = true then do let ok ← isTrue c (compEnvC scope cl C env) (eval c (compEnvC scope cl C env)); pure (ForInStep.yield ok) else pure (ForInStep.yield r))
      (fun ok s₄ => ok = p a k ∧ Keeps s₃ s₄) E' s₃) ∧
  (∀ C oC a t k u m₂ s₃ (E' : Value → Shared → Prop), a ∈ ns → k ∈ ks → p a k = true → LCg.NsObj oC m₂ → m₂ x = some (.int a t) → m₂ y = some (.int k u) → Fr h₀ L s₃.heap m → News h₀ L s₃.heap ((C, oC) :: news) → (∀ b o, s₁.heap.get? b = some o → s₃.heap.get? b = some o) →
    wpAny (model prog w) A (eval elt (compEnvC scope cl C env)) (fun y s₄ => (∃ u, y = .int (g a k) u) ∧ Keeps s₃ s₄) E' s₃)

noncomputable def flat2 (ks : List Int) (p : Int → Int → Bool) (g : Int → Int → Int) (ns : List Int) : List Int := ns.flatMap fun a => (ks.filter (p a)).map (g a)
theorem flat2_snoc (ks : List Int) (p : Int → Int → Bool) (g : Int → Int → Int) (ns : List Int) (i : Nat) (a : Int) (h : ns[i]? = some a) : flat2 ks p g (ns.take (i + 1)) = flat2 ks p g (ns.take i) ++ (ks.filter (p a)).map (g a) := by
  unfold flat2
  rw [List.take_add_one, h, List.flatMap_append]
  simp
theorem flat2_le (ks : List Int) (p : Int → Int → Bool) (g : Int → Int → Int) : ∀ ns : List Int, (flat2 ks p g ns).length ≤ ns.length * ks.length
  | [] => by simp [flat2]
  | a :: r => by
    have := flat2_le ks p g r
    unfold flat2 at *
    rw [List.flatMap_cons, List.length_append, List.length_map, List.length_cons, Nat.succ_mul]
    have := List.length_filter_le (p a) ks
    omega

theorem comp2_eval {elt i1 i2 : Expr} {x y : Str} {px py : Pos} {ifs : List Expr} {scope : Scope} {cl : List (Str × Addr)} {pos : Pos} {Q : Value → Shared → Prop} (F₀ : Fr h₀ L s.heap m) (p : Int → Int → Bool) (g : Int → Int → Int) (hh : A.handled = none)
    (hclos : closureFor scope env = pure cl) (hcell : ∀ y ∈ scope.names, y.2 ≠ .cell) (hkind : scope.kind = .function)
    (hnames : ∀ y ∈ scope.names, y.2 = .local → scope.names.lookup y.1 = some .local) (hx : scope.names.lookup x = some .local) (hy : scope.names.lookup y = some .local) (hxy : x ≠ y)
    (h : wpAny (model prog w) A (eval i1 env) (fun xv s₁ => ∃ ns ks news, SrcInts s₁ xv ns ∧ Fr h₀ L s₁.heap m ∧ News h₀ L s₁.heap news ∧ ns.length * ks.length + ks.length ≤ 1000 ∧ Turns2 prog w A env h₀ L m news scope cl x y i2 ifs elt ns ks p g s₁ ∧
      (∀ D h' tk, ListOut h₀ L m news s₁ (flat2 ks p g ns) D h' → Q (.ref D) { s₁ with heap := h', toks := tk })) E s)
    (hs1 : ∀ x, foldedSetIterable i1 env x = pure x) (hs2 : ∀ e x, foldedSetIterable i2 e x = pure x) (ht : ∀ it v, letOwnedTupleGo (.Name x px) it v = pure ()) (ht2 : ∀ it v, letOwnedTupleGo (.Name y py) it v = pure ()) :
    wpAny (model prog w) A (eval (.ListComp elt [⟨.Name x px, i1, [], 0⟩, ⟨.Name y py, i2, ifs, 0⟩] scope pos) env) Q E s := by
  rw [eval_ListComp]
  refine wpAny_comprehension_free (use := none) rfl hs1 hclos hkind hnames (wpAny_mono h (fun xv s₁ h₁ => ?_) fun _ _ e => e)
  obtain ⟨ns, ks, news, S, F, N, hlen, ⟨T1, T2, T3⟩, hQ⟩ := h₁
  refine src_walk hh S fun I fp P St s₂ W st hs₂ hfp hI hP => ?_
  obtain ⟨oI, rfl⟩ := hs₂
  refine wpAny_newObj_type (wpAny_newFunctionEnv hcell (by intro y hy; simp at hy) (fun h₁ hns₁ hsb₁ => ?_) hkind)
  dsimp only at hns₁ hsb₁ hfp ⊢
  generalize hH1 : s₁.heap.push oI = H1 at hns₁ hsb₁ hfp st ⊢
  generalize hH2 : H1.push { cls := .type "list", dict := none, data := .seq ([] : List Value).toArray } = H2 at hns₁ hsb₁ ⊢
  have hI1 : H1.objs.size = s₁.heap.objs.size + 1 := by rw [← hH1, Heap.size_push]
  have hC : H2.objs.size = H1.objs.size + 1 := by rw [← hH2, Heap.size_push]
  have hDC : H1.objs.size ≠ H2.objs.size := by rw [hC]; exact Nat.ne_of_lt (Nat.lt_succ_self _)
  have below : ∀ b, b < H1.objs.size → b ≠ H2.objs.size ∧ b ≠ H1.objs.size := fun b hb => ⟨by rw [hC]; exact Nat.ne_of_lt (Nat.lt_succ_of_lt hb), Nat.ne_of_lt hb⟩
  have hDf : H1.objs.size ∉ fp := fun hm => Nat.lt_irrefl _ (hfp _ hm)
  have hCf : H2.objs.size ∉ fp := fun hm => by have := hfp _ hm; rw [hC] at this; exact Nat.lt_irrefl _ (Nat.lt_of_succ_lt this)
  have old1 : ∀ b o, s₁.heap.get? b = some o → H1.get? b = some o := fun b o e => hH1 ▸ Heap.get?_push_of_some _ e
  have old : ∀ b o, H1.get? b = some o → h₁.get? b = some o := fun b o e => hsb₁.extBut b o (below b (Heap.lt_size e)).1 (Heap.get?_push_of_some _ (hH2 ▸ Heap.get?_push_of_some _ e))
  have hacc : h₁.PlainList H1.objs.size (List.toArray []) := ⟨_, hsb₁.extBut _ _ hDC (Heap.get?_push_of_some _ (hH2 ▸ Heap.get?_push_size _ rfl))⟩
  have hst₁ : St 0 h₁ := W.frame _ _ _ st fun b _ o e => old b o e
  have fresh : ∀ a, H1.objs.size ≤ a → s₁.heap.get? a = none := fun a ha => by
    cases e : s₁.heap.get? a with
    | none => rfl
    | some o' => exact absurd (Heap.lt_size e) (Nat.not_lt.mpr (by omega))
  have fresh₀ : ∀ a, H1.objs.size ≤ a → h₀.get? a = none := fun a ha => by
    cases e : h₀.get? a with
    | none => rfl
    | some o' => have := F.keep a o' e; rw [fresh a ha] at this; cases this
  have hLlt : L < H1.objs.size := by rw [hI1]; exact Nat.lt_succ_of_lt F.ns.lt
  have hDL : H1.objs.size ≠ L := Ne.symm (below L hLlt).2
  have hCL : H2.objs.size ≠ L := Ne.symm (below L hLlt).1
  have hkx : (compEnvC scope cl H2.objs.size env).kindOf x = some .local := lookup_relabel_local hx
  have hky : (compEnvC scope cl H2.objs.size env).kindOf y = some .local := lookup_relabel_local hy
  have hpp : ((compEnvC scope cl H2.objs.size env).scope.kind == .class || ((compEnvC scope cl H2.objs.size env).scope.kind == .module && (compEnvC scope cl H2.objs.size env).locals != (compEnvC scope cl H2.objs.size env).globals)) = false := by simp [compEnvC, relabel, hkind]
  have newsC : ∀ {h : Heap} {m₂ : Str → Option Value}, (∀ b o, s₁.heap.get? b = some o → h.get? b = some o) → h.Ns H2.objs.size m₂ → ∃ oC, LCg.NsObj oC m₂ ∧ Fr h₀ L h m ∧ News h₀ L h ((H2.objs.size, oC) :: news) := fun up hn => by
    obtain ⟨oC, eC, nC⟩ := LCg.ns_obj hn
    refine ⟨oC, nC, F.keeps up, fun q hq => ?_⟩
    rcases List.mem_cons.mp hq with rfl | hq
    · exact ⟨eC, hCL, fresh₀ _ (by omega)⟩
    · exact keeps_news N up q hq
  have loop : ∀ s₃ : Shared, s₃ = { s₁ with heap := h₁, toks := s₁.toks + ([] : List (Str × Value)).length } →
      codeAny (model prog w) A (.compLoop (.ListComp elt [⟨.Name x px, i1, [], 0⟩, ⟨.Name y py, i2, ifs, 0⟩] scope pos) 0 (.ref I) (.ref H1.objs.size) (compEnvC scope cl H2.objs.size env))
        (compPost (model prog w) A E none Q (.ref H1.objs.size) H2.objs.size) s₃ := by
    rintro s₃ rfl
    refine loop0 (fun k s' => ∃ h' tk i m' ys, s' = { s₁ with heap := h', toks := tk } ∧ i ≤ ns.length ∧ k = ns.length + 1 - i ∧ St i h' ∧ h'.PlainList H1.objs.size (List.toArray ys) ∧ IntsAre ys (flat2 ks p g (ns.take i)) ∧ h'.Ns H2.objs.size m' ∧
        ∀ b o, s₁.heap.get? b = some o → h'.get? b = some o) ?_ (ns.length + 1)
      ⟨h₁, _, 0, _, [], rfl, Nat.zero_le _, rfl, hst₁, hacc, .nil, hns₁, fun b o e => old b o (old1 b o e)⟩ (ht _) (hs2 _)
    rintro k s' ⟨H, tk, i, m', ys, rfl, hi, rfl, hst', hacc', hys', hn', hk⟩
    have hIlt : I < H1.objs.size := hfp I (W.sub I (List.mem_singleton.mpr rfl))
    have hCI : H2.objs.size ≠ I := Ne.symm (below I hIlt).1
    have hDI : H1.objs.size ≠ I := Ne.symm (below I hIlt).2
    have hIold : ∀ b o, s₁.heap.get? b = some o → b ≠ I := fun b o e q => by rw [q, hI] at e; exact absurd (Heap.lt_size e) (Nat.lt_irrefl _)
    by_cases hlt : i < ns.length
    · refine W.item i _ _ _ hlt hst' fun v h₂ tk₂ hPv hst₂ hk₂ => ?_
      obtain ⟨a, t, ha, rfl⟩ := hP i v hPv
      have ham : a ∈ ns := List.mem_of_getElem? ha
      refine wpAny_assign_Name (wpAny_storeName_local hkx (hn'.at' fun o e => hk₂ _ o (by simpa using hCI) e) (fun h₃ hn₃ hs₃ => ?_) hpp)
      have up₃ : ∀ b o, b ≠ H2.objs.size → b ≠ I → H.get? b = some o → h₃.get? b = some o := fun b o hb hbI e => hs₃.extBut b o hb (hk₂ b o (by simpa using hbI) e)
      have hs1C : ∀ b o, s₁.heap.get? b = some o → b ≠ H2.objs.size := fun b o e => (below b (by rw [hI1]; exact Nat.lt_succ_of_lt (Heap.lt_size e))).1
      have hs1D : ∀ b o, s₁.heap.get? b = some o → b ≠ H1.objs.size := fun b o e => (below b (by rw [hI1]; exact Nat.lt_succ_of_lt (Heap.lt_size e))).2
      have all₃ : ∀ b o, s₁.heap.get? b = some o → h₃.get? b = some o := fun b o e => up₃ b o (hs1C b o e) (hIold b o e) (hk b o e)
      have hst₃ : St (i + 1) h₃ := W.frame _ _ _ hst₂ fun b hb o e => hs₃.extBut b o (fun q => hCf (by have q' : b = H2.objs.size := q; rw [← q']; exact hb)) e
      have hmx₃ : (fun z => if z = x then some (Value.int a t) else m' z) x = some (Value.int a t) := if_pos rfl
      obtain ⟨oC, nC, F₃, N₃⟩ := newsC all₃ hn₃
      refine wpAny_mono (T1 _ oC a t _ _ _ ham nC hmx₃ F₃ N₃ all₃) (fun xv2 s₄ h₄ => ?_) fun _ _ e => e
      obtain ⟨⟨r, ra, rb, rt, ru, rv, n, rfl, hr, hsm, hn, rfl⟩, h₄, tk₄, rfl, hk₄⟩ := h₄
      refine wpAny_pyIter_range hr hsm ?_
      generalize hI2 : h₄.objs.size = I2
      generalize hH5 : h₄.push { cls := .type "range_iterator", data := .fields #[rawInt ra, rawInt (Builtin.Range.rangeSize ra rb 1), rawInt 1] } = h₅
      have hsz₃ : ∀ b, b < h₄.objs.size → b ≠ I2 := fun b hb e => by rw [← hI2] at e; exact Nat.ne_of_lt hb e
      have up₅ : ∀ b o, h₃.get? b = some o → h₅.get? b = some o := fun b o e => hH5 ▸ Heap.get?_push_of_some _ (hk₄ b o e)
      have live : ∀ b o, h₃.get? b = some o → b ≠ I2 := fun b o e => hsz₃ b (Heap.lt_size (hk₄ b o e))
      obtain ⟨oD, eD⟩ := hacc'
      have eD₃ : h₃.get? H1.objs.size = some _ := up₃ _ _ hDC hDI eD
      obtain ⟨oCx, _, _, eCx, _⟩ := id hn₃
      have hD2 : H1.objs.size ≠ I2 := live _ _ eD₃
      have hC2 : H2.objs.size ≠ I2 := live _ _ eCx
      have W2 : Walks prog w A I2 [I2] [I2] n (fun i v => i < n ∧ ∃ t, v = .int (ra + i * 1) t) (fun i h => IsRangeIter h I2 (ra + (i : Nat) * 1) ((n : Int) - (i : Nat)) 1) := (Walks.range hh _ ra 1 n).bound
      have st2 : IsRangeIter h₅ I2 (ra + ((0 : Nat) : Int) * 1) ((n : Int) - ((0 : Nat) : Int)) 1 := by
        show h₅.get? I2 = some _
        rw [← hH5, ← hI2, hn]
        simpa using Heap.get?_push_size _ rfl
      have inner : codeAny (model prog w) A (.compLoop (.ListComp elt [⟨.Name x px, i1, [], 0⟩, ⟨.Name y py, i2, ifs, 0⟩] scope pos) 1 (.ref I2) (.ref H1.objs.size) (compEnvC scope cl H2.objs.size env))
          (fun r s₅ => match r with
            | .ok _ => ∃ m_1, m_1 < ns.length + 1 - i ∧ ∃ h' tk i m' ys, s₅ = { s₁ with heap := h', toks := tk } ∧ i ≤ ns.length ∧ m_1 = ns.length + 1 - i ∧ St i h' ∧ h'.PlainList H1.objs.size (List.toArray ys) ∧ IntsAre ys (flat2 (rangeKs ra n) p g (ns.take i)) ∧ h'.Ns H2.objs.size m' ∧
                ∀ b o, s₁.heap.get? b = some o → h'.get? b = some o
            | .error _ => False) { s₁ with heap := h₅, toks := tk₄ } := by
        refine inner_walk (ks := rangeKs ra n) (zs := flat2 (rangeKs ra n) p g (ns.take i)) (ys := ys) (vx := .int a t) (x := x) (by rw [rangeKs_length]; exact W2) ?_ (p a) (g a) hky hpp hxy hDC (fun hm => hD2 (List.mem_singleton.mp hm)) (fun hm => hC2 (List.mem_singleton.mp hm)) st2 ⟨_, up₅ _ _ eD₃⟩ hys' (hn₃.keeps up₅) hmx₃ ?_ ?_ ?_ ?_
        · rintro j v ⟨hj, u, rfl⟩
          exact ⟨ra + (j : Int), u, by simp [rangeKs, hj], by simp⟩
        · have h1 := flat2_le (rangeKs ra n) p g (ns.take i)
          have h2 : (ns.take i).length * (rangeKs ra n).length ≤ ns.length * (rangeKs ra n).length := Nat.mul_le_mul_right _ (by rw [List.length_take]; omega)
          omega
        · intro k u s₆ m₂ E' hkm hn₆ hmx hmy hk₆
          have all₆ : ∀ b o, s₁.heap.get? b = some o → s₆.heap.get? b = some o := fun b o e => hk₆ b o (hs1C b o e) (live b o (all₃ b o e)) (hs1D b o e) (up₅ b o (all₃ b o e))
          obtain ⟨oC, nC, F₆, N₆⟩ := newsC all₆ hn₆
          exact T2 _ oC a t k u m₂ s₆ E' ham hkm nC hmx hmy F₆ N₆ all₆
        · intro k u s₆ m₂ E' hkm hpk hn₆ hmx hmy hk₆
          have all₆ : ∀ b o, s₁.heap.get? b = some o → s₆.heap.get? b = some o := fun b o e => hk₆ b o (hs1C b o e) (live b o (all₃ b o e)) (hs1D b o e) (up₅ b o (all₃ b o e))
          obtain ⟨oC, nC, F₆, N₆⟩ := newsC all₆ hn₆
          exact T3 _ oC a t k u m₂ s₆ E' ham hkm hpk nC hmx hmy F₆ N₆ all₆
        · intro h₇ tk₇ m₇ ys₇ hn₇ hl₇ hi₇ hk₇
          refine ⟨ns.length + 1 - (i + 1), by omega, h₇, tk₇, i + 1, m₇, ys₇, rfl, hlt, rfl, ?_, hl₇, by rw [flat2_snoc _ _ _ _ _ _ ha]; exact hi₇, hn₇, fun b o e => hk₇ b o (hs1C b o e) (live b o (all₃ b o e)) (hs1D b o e) (up₅ b o (all₃ b o e))⟩
          refine W.frame _ _ _ hst₃ fun b hb o e => hk₇ b o (fun q => hCf (by have q' : b = H2.objs.size := q; rw [← q']; exact hb)) (live b o e) (fun q => hDf (q ▸ hb)) (up₅ b o e)
      exact start1 inner (W2.self 0 _ _ _ st2 inner)
    · obtain rfl : i = ns.length := Nat.le_antisymm hi (Nat.not_lt.mp hlt)
      refine W.done _ _ _ hst' fun h₂ tk₂ hk₂ => ?_
      rw [List.take_length] at hys'
      obtain ⟨nv, eD⟩ := hacc'
      refine ⟨m', hn'.at' fun o e => hk₂ _ o (by simpa using hCI) e, fun h'' hs'' => ?_⟩
      have all'' : ∀ b o, s₁.heap.get? b = some o → h''.get? b = some o := fun b o e => hs''.extBut b o (below b (by rw [hI1]; exact Nat.lt_succ_of_lt (Heap.lt_size e))).1 (hk₂ b o (by simpa using hIold b o e) (hk b o e))
      have eD'' : h''.get? H1.objs.size = some _ := hs''.extBut _ _ hDC (hk₂ _ _ (by simpa using hDI) eD)
      refine hQ H1.objs.size h'' _ ⟨F.keeps all'', ⟨ys, nv, fun q hq => ?_, hys'⟩, fun q hq e => ?_, all'', fresh _ (Nat.le_refl _), hDL⟩
      · rcases List.mem_cons.mp hq with rfl | hq
        · exact ⟨eD'', hDL, fresh₀ _ (Nat.le_refl _)⟩
        · exact keeps_news N all'' q hq
      · have := (N q hq).1
        rw [e, fresh _ (Nat.le_refl _)] at this; cases this
  exact codeAny_compStart_list (loop _ rfl) (W.self 0 _ _ _ hst₁ (loop _ rfl))
end
end Mine
end
section
open PySem PySem.W PyProof.Rows PySem.Calls
set_option maxRecDepth 100000
namespace Mine
section
variable {prog : Program} {w : World} {A : Around} {E : Value → Shared → Prop} {s : Shared} {env : Env} {h₀ : Heap}
noncomputable def TurnG (h₀ : Heap) (L : Addr) (s : Shared) (I : Addr) (oI : Obj) (J : (Str → Option Value) → List (Addr × Obj) → Prop) (Q : Flow → Shared → Prop) (f : Flow) (s₂ : Shared) : Prop :=
  match f with
  | .ret v => Q (.ret v) s₂
  | .brk => Q .next s₂
  | _ => ∃ h tk m nx, s₂ = { s with heap := h, toks := tk } ∧ Fr h₀ L h m ∧ News h₀ L h ((I, oI) :: nx) ∧ AllNe I nx ∧ J m nx
theorem TurnG.next {L I : Addr} {oI : Obj} {J : (Str → Option Value) → List (Addr × Obj) → Prop} {Q : Flow → Shared → Prop} {h : Heap} {tk : Nat} {m : Str → Option Value} {all : List (Addr × Obj)} (F : Fr h₀ L h m) (N : News h₀ L h all) (nx : List (Addr × Obj)) (sub : ∀ p ∈ (I, oI) :: nx, p ∈ all) (ne : AllNe I nx) (j : J m nx) :
    TurnG h₀ L s I oI J Q .next { s with heap := h, toks := tk } := ⟨h, tk, m, nx, rfl, F, fun p hp => N p (sub p hp), ne, j⟩
noncomputable def LoopG (prog : Program) (w : World) (A : Around) (h₀ : Heap) (env : Env) (tgt : Expr) (body : List Stmt) (Q : Flow → Shared → Prop) (E : Value → Shared → Prop) (it : Value) (s₂ : Shared) : Prop :=
  ∃ (I : Addr) (n : Nat) (P : Nat → Value → Prop) (St : Nat → Heap → Prop) (fp : List Addr) (keep : List (Addr × Obj)) (m : Str → Option Value) (nx : List (Addr × Obj)) (J : Nat → (Str → Option Value) → List (Addr × Obj) → Prop),
    it = .ref I ∧ Walks prog w A I fp [I] n P St ∧ (∀ i h, St i h → ∃ o, h.get? I = some o) ∧ h₀.get? I = none ∧ @Ne Nat I env.locals ∧ (∀ b ∈ fp, b ≠ I → ∃ o, (b, o) ∈ keep) ∧ (∀ i m nx, J i m nx → ∀ p ∈ keep, p ∈ nx) ∧
    St 0 s₂.heap ∧ Fr h₀ env.locals s₂.heap m ∧ News h₀ env.locals s₂.heap nx ∧ AllNe I nx ∧ J 0 m nx ∧
    (∀ i v h tk m nx oI, i < n → P i v → J i m nx → AllNe I nx → Fr h₀ env.locals h m → News h₀ env.locals h ((I, oI) :: nx) →
      wpAny (model prog w) A (assign tgt env v) (fun _ s₃ => wpAny (model prog w) A (execs body env) (TurnG h₀ env.locals s₂ I oI (J (i + 1)) Q) E s₃) E { s₂ with heap := h, toks := tk }) ∧
    ∀ h tk m nx, J n m nx → Fr h₀ env.locals h m → News h₀ env.locals h nx → Q .next { s₂ with heap := h, toks := tk }
theorem For_G {tgt iter : Expr} {body : List Stmt} {pos : Pos} {Q : Flow → Shared → Prop} (h₀ : Heap)
    (h : wpAny (model prog w) A (eval iter env) (fun xv s₁ => wpAny (model prog w) A (pyIter xv) (fun it s₂ => LoopG prog w A h₀ env tgt body Q E it s₂) E s₁) E s)
    (hE : PassesOwn (model prog w) A env E)
    (hs : ∀ x, foldedSetIterable iter env x = pure x := by intro _; rfl)
    (ht : ∀ I v, letOwnedTupleGo tgt I v = pure () := by intro _ _; rfl) :
    wpAny (model prog w) A (exec (.For tgt iter body [] pos) env) Q E s := by
  refine wpAny_For (wpAny_mono h (fun xv s₁ h₁ => wpAny_mono h₁ (fun it s₂ h₂ => ?_) fun _ _ e => e) fun _ _ e => e) hs
  obtain ⟨I, n, P, St, fp, keep, m, nx, J, rfl, W, live, hI0, hIL, hfp, hkeep, st0, F0, N0, ne0, j0, turn, done⟩ := h₂
  refine codeAny_forLoop (fun k s' => ∃ i h' tk m nx, s' = { s₂ with heap := h', toks := tk } ∧ St i h' ∧ Fr h₀ env.locals h' m ∧ News h₀ env.locals h' nx ∧ AllNe I nx ∧ J i m nx ∧ i ≤ n ∧ k = n + 1 - i) ?_ (n + 1)
    ⟨0, s₂.heap, s₂.toks, m, nx, rfl, st0, F0, N0, ne0, j0, Nat.zero_le _, rfl⟩ (ht _)
  rintro k s' ⟨i, h', tk, m, nx, rfl, st, F, N, ne, j, hi, rfl⟩
  have next : ∀ h₁ : Heap, (∀ b o, b ∉ [I] → h'.get? b = some o → h₁.get? b = some o) → Fr h₀ env.locals h₁ m ∧ News h₀ env.locals h₁ nx := fun h₁ hk => by
    have hk' : ∀ b o, b ≠ I → h'.get? b = some o → h₁.get? b = some o := fun b o q e => hk b o (fun hm => q (List.mem_singleton.mp hm)) e
    exact ⟨fr_at F hk' hIL hI0, fun p hp => ⟨hk' _ _ (ne_of_allNe ne p hp) (N p hp).1, (N p hp).2⟩⟩
  by_cases hlt : i < n
  · refine W.item i _ _ _ hlt st fun v h₁ tk₁ hP st₁ hk₁ => ?_
    obtain ⟨F₁, N₁⟩ := next h₁ hk₁
    obtain ⟨oI, eI⟩ := live _ _ st₁
    have NI : News h₀ env.locals h₁ ((I, oI) :: nx) := fun p hp => by
      rcases List.mem_cons.mp hp with rfl | hp
      · exact ⟨eI, hIL, hI0⟩
      · exact N₁ p hp
    refine wpAny_passesOwn hE (wpAny_mono (turn i v h₁ tk₁ m nx oI hlt hP j ne F₁ NI) (fun _ s₃ h₃ => wpAny_passesOwn hE (wpAny_mono h₃ (fun f s₄ h₄ => ?_) fun _ _ e => e)) fun _ _ e => e)
    have step : (∃ h tk m nx, s₄ = { s₂ with heap := h, toks := tk } ∧ Fr h₀ env.locals h m ∧ News h₀ env.locals h ((I, oI) :: nx) ∧ AllNe I nx ∧ J (i + 1) m nx) →
        ∃ k, k < n + 1 - i ∧ ∃ i h' tk m nx, s₄ = { s₂ with heap := h', toks := tk } ∧ St i h' ∧ Fr h₀ env.locals h' m ∧ News h₀ env.locals h' nx ∧ AllNe I nx ∧ J i m nx ∧ i ≤ n ∧ k = n + 1 - i := by
      rintro ⟨h₅, tk₅, m₅, nx₅, e, F₅, N₅, ne₅, j₅⟩
      refine ⟨n + 1 - (i + 1), by omega, i + 1, h₅, tk₅, m₅, nx₅, e, ?_, F₅, fun p hp => N₅ p (.tail _ hp), ne₅, j₅, hlt, rfl⟩
      refine W.frame _ _ _ st₁ fun b hb o e => ?_
      by_cases q : b = I
      · subst q
        rw [eI] at e
        cases e
        exact (N₅ _ (.head _)).1
      · obtain ⟨o', ho'⟩ := hfp b hb q
        have h1 := (N₁ _ (hkeep _ _ _ j _ ho')).1
        rw [e] at h1
        cases h1
        exact (N₅ _ (.tail _ (hkeep _ _ _ j₅ _ ho'))).1
    cases f with
    | ret v => exact h₄
    | brk => exact h₄
    | next => exact step h₄
    | cont => exact step h₄
  · have hin : i = n := by omega
    subst hin
    refine W.done _ _ _ st fun h₁ tk₁ hk₁ => wpAny_execs_nil ?_
    obtain ⟨F₁, N₁⟩ := next h₁ hk₁
    exact done h₁ tk₁ m nx j F₁ N₁
theorem loopG_range {tgt : Expr} {body : List Stmt} {Q : Flow → Shared → Prop} {r : Addr} {a₀ b₀ : Int} {t₀ u₀ v₀ : Tok} {n : Nat} {m₀ : Str → Option Value} {news : List (Addr × Obj)}
    (J : Nat → (Str → Option Value) → List (Addr × Obj) → Prop)
    (hh : A.handled = none) (hr : IsRange s.heap r a₀ b₀ 1 t₀ u₀ v₀) (hsmall : Builtin.Range.small a₀ b₀ 1 = true) (hn : Builtin.Range.rangeSize a₀ b₀ 1 = (n : Int)) (F : Fr h₀ env.locals s.heap m₀) (N : News h₀ env.locals s.heap news) (hj : J 0 m₀ news)
    (turn : ∀ (i : Nat) t h tk m nx I oI, i < n → J i m nx → AllNe I nx → Fr h₀ env.locals h m → News h₀ env.locals h ((I, oI) :: nx) →
      wpAny (model prog w) A (assign tgt env (.int (a₀ + (i : Int)) t)) (fun _ s₃ => wpAny (model prog w) A (execs body env) (TurnG h₀ env.locals s I oI (J (i + 1)) Q) E s₃) E { s with heap := h, toks := tk })
    (done : ∀ m nx h tk, J n m nx → Fr h₀ env.locals h m → News h₀ env.locals h nx → Q .next { s with heap := h, toks := tk }) :
    wpAny (model prog w) A (pyIter (.ref r)) (fun it s₂ => LoopG prog w A h₀ env tgt body Q E it s₂) E s := by
  refine wpAny_pyIter_range hr hsmall ?_
  have W : Walks prog w A s.heap.objs.size [s.heap.objs.size] [s.heap.objs.size] n (fun i v => i < n ∧ ∃ t, v = .int (a₀ + i * 1) t)
      (fun i h => IsRangeIter h s.heap.objs.size (a₀ + (i : Nat) * 1) ((n : Int) - (i : Nat)) 1) := (Walks.range hh _ a₀ 1 n).bound
  have hne : ∀ p ∈ news, p.1 ≠ s.heap.objs.size := fun p hp => Nat.ne_of_lt (Heap.lt_size (N p hp).1)
  refine ⟨s.heap.objs.size, n, _, _, [s.heap.objs.size], [], m₀, news, J, rfl, W, fun i h st => ⟨_, st⟩, next_is_new F, ?_, ?_, ?_, (by show IsRangeIter _ _ _ _ _; rw [hn]; simpa using Heap.get?_push_size _ rfl), F.push _, (fun p hp => ⟨Heap.get?_push_of_some _ (N p hp).1, (N p hp).2⟩), allNe_of hne, hj, ?_, ?_⟩
  · exact Ne.symm (Nat.ne_of_lt F.ns.lt)
  · intro b hb q; exact absurd (List.mem_singleton.mp hb) q
  · intro i m nx _ p hp; cases hp
  · rintro i v h tk m nx oI hi ⟨_, t, rfl⟩ j ne F' N'
    rw [Int.mul_one]
    exact turn i t h tk m nx _ oI hi j ne F' N'
  · exact fun h tk m nx j F' N' => done m nx h tk j F' N'
theorem ints_item {vs : List Value} {ns : List Int} (h : IntsAre vs ns) : ∀ {i : Nat} {v : Value}, vs[i]? = some v → ∃ n t, ns[i]? = some n ∧ v = .int n t := by
  induction h with
  | nil => intro i v e; simp at e
  | cons n t _ ih =>
    intro i v e
    cases i with
    | zero => simp at e; exact ⟨n, t, rfl, e.symm⟩
    | succ i => simp at e; exact ih e
theorem loopG_list {tgt : Expr} {body : List Stmt} {Q : Flow → Shared → Prop} {l : Addr} {vs : List Value} {ns : List Int} {ver : Nat} {m₀ : Str → Option Value} {news : List (Addr × Obj)}
    (J : Nat → (Str → Option Value) → List (Addr × Obj) → Prop)
    (hh : A.handled = none) (hl : (l, W.listOf vs.toArray ver) ∈ news) (hi : IntsAre vs ns) (F : Fr h₀ env.locals s.heap m₀) (N : News h₀ env.locals s.heap news) (hkeep : ∀ i m nx, J i m nx → (l, W.listOf vs.toArray ver) ∈ nx) (hj : J 0 m₀ news)
    (turn : ∀ (i : Nat) n t h tk m nx I oI, ns[i]? = some n → J i m nx → AllNe I nx → Fr h₀ env.locals h m → News h₀ env.locals h ((I, oI) :: nx) →
      wpAny (model prog w) A (assign tgt env (.int n t)) (fun _ s₃ => wpAny (model prog w) A (execs body env) (TurnG h₀ env.locals s I oI (J (i + 1)) Q) E s₃) E { s with heap := h, toks := tk })
    (done : ∀ m nx h tk, J ns.length m nx → Fr h₀ env.locals h m → News h₀ env.locals h nx → Q .next { s with heap := h, toks := tk }) :
    wpAny (model prog w) A (pyIter (.ref l)) (fun it s₂ => LoopG prog w A h₀ env tgt body Q E it s₂) E s := by
  have hls : s.heap.IsList l vs.toArray := ⟨_, (N _ hl).1, rfl, ver, rfl⟩
  have hlI : l ≠ s.heap.objs.size := Nat.ne_of_lt (Heap.lt_size (N _ hl).1)
  refine wpAny_pyIter_list hls ?_
  have WW := Walks.list (prog := prog) (w := w) hh s.heap.objs.size l hlI vs.toArray
  have hlen : vs.toArray.size = ns.length := by simp [hi.length]
  rw [hlen] at WW
  have hne : ∀ p ∈ news, p.1 ≠ s.heap.objs.size := fun p hp => Nat.ne_of_lt (Heap.lt_size (N p hp).1)
  refine ⟨s.heap.objs.size, ns.length, _, _, _, [(l, W.listOf vs.toArray ver)], m₀, news, J, rfl, WW, ?_, next_is_new F, ?_, ?_, ?_, ⟨⟨_, Heap.get?_push_size _ rfl, rfl, rfl⟩, hls.at fun o e => Heap.get?_push_of_some _ e⟩, F.push _, (fun p hp => ⟨Heap.get?_push_of_some _ (N p hp).1, (N p hp).2⟩), allNe_of hne, hj, ?_, ?_⟩
  · rintro i h ⟨⟨o, e, _⟩, _⟩
    exact ⟨o, e⟩
  · exact Ne.symm (Nat.ne_of_lt F.ns.lt)
  · intro b hb q
    rcases List.mem_cons.mp hb with e | hb
    · exact absurd e q
    · rw [List.mem_singleton.mp hb]; exact ⟨_, .head _⟩
  · intro i m nx j p hp
    rw [List.mem_singleton.mp hp]; exact hkeep i m nx j
  · rintro i v h tk m nx oI _ hv j ne F' N'
    obtain ⟨n, t, e, rfl⟩ := ints_item hi (i := i) (v := v) (by simpa using hv)
    exact turn i n t h tk m nx _ oI e j ne F' N'
  · exact fun h tk m nx j F' N' => done m nx h tk j F' N'
end
end Mine
end
section
open PySem PySem.W PyProof.Rows PySem.Calls
set_option maxRecDepth 100000
namespace Mine
section
variable {prog : Program} {w : World} {A : Around} {E : Value → Shared → Prop} {s : Shared}
theorem push_stays (h : Heap) (o : Obj) : h.StaysIn (h.push o) := fun _ _ e => Heap.get?_push_of_some _ e
theorem size_none (h : Heap) : h.get? h.objs.size = none := by
  cases q : h.get? h.objs.size with
  | none => rfl
  | some o => exact absurd (Heap.lt_size q) (Nat.lt_irrefl _)
theorem add_keep {l b : Addr} {vs ws : List Value} {ns ms : List Int} {Q : Value → Shared → Prop} (hl : s.heap.IsList l vs.toArray) (hb : s.heap.IsList b ws.toArray) (hi : IntsAre vs ns) (hj : IntsAre ws ms) (hsz : ns.length + ms.length ≤ 1000)
    (h : ∀ D us h', s.heap.StaysIn h' → h'.get? D = some (W.listOf (List.toArray us) 0) → s.heap.get? D = none → IntsAre us (ns ++ ms) → Q (.ref D) { s with heap := h' }) :
    wpAny (model prog w) A (binaryOp .Add (.ref l) (.ref b)) Q E s := by
  obtain ⟨⟨cls, dd, data, sl⟩, ho, hc, k, hd⟩ := id hl
  obtain ⟨⟨cls2, dd2, data2, sl2⟩, ho2, hc2, k2, hd2⟩ := id hb
  simp only at hc hd hc2 hd2
  subst hc hd hc2 hd2
  have hz : vs.length + ws.length ≤ sizeLine := by rw [hi.length, hj.length]; exact line1000 hsz
  refine concat_meets ⟨_, ho, rfl⟩ ⟨_, ho2, rfl⟩ noFill_list_add seq_list_add PySem.F.slot_list_add PySem.F.entry_list_add (PySem.F.args_list_add_2 _ _) (list_addW l b vs.toArray ws.toArray k k2 dd dd2 sl sl2 (by simpa using hz)) ⟨ho, ho2, ?_⟩
  rw [show vs.toArray ++ ws.toArray = (vs ++ ws).toArray by simp]
  exact h _ (vs ++ ws) _ (push_stays _ _) (Heap.get?_push_size _ rfl) (size_none _) (hi.append hj)
theorem slice_keep {value slice : Expr} {l : Addr} {vs : List Value} {ns ms : List Int} {vl vu : Value} {lo hi : Option Int} {Q : Value → Shared → Prop}
    (hl : s.heap.IsList l vs.toArray) (pl : IsPart vl lo) (pu : IsPart vu hi) (hi' : IntsAre vs ns) (hsz : ns.length ≤ 1000) (hm : IntsAre (slicePick vs.toArray lo hi none).toList ms)
    (h : ∀ D us h', s.heap.StaysIn h' → h'.get? D = some (W.listOf (List.toArray us) 0) → s.heap.get? D = none → IntsAre us ms → Q (.ref D) { s with heap := h' })
    (hs : subscripted slice false (.ref l) (.ref s.heap.objs.size) = operate [.ref s.heap.objs.size, .ref l] (getItem (.ref l) (.ref s.heap.objs.size)))
    (ht : ∀ r, letTemporaryGo value (.ref l) r = pure ()) :
    wpAny (model prog w) A (subscriptTail value slice (.ref l) (.ref s.heap.objs.size)) Q E { s with heap := s.heap.push { cls := .type "slice", data := .fields #[vl, vu, .none] } } := by
  refine subscriptTail_ops (Heap.IsList.typeIs (s := { s with heap := s.heap.push { cls := .type "slice", data := .fields #[vl, vu, .none] } }) (hl.push _)) list_getitem_lookup
    (wpAny_getItem_list_slice (hl.push _) (Heap.IsSliceOf.new ..) pl pu .none (by simp) ?_ (by rw [List.size_toArray, hi'.length]; exact line1000 hsz)) hs ht
  refine h _ (slicePick vs.toArray lo hi none).toList _ (fun b o e => Heap.get?_push_of_some _ (Heap.get?_push_of_some _ e)) ?_ ?_ hm
  · rw [Array.toArray_toList]; exact Heap.get?_push_size _ rfl
  · cases q : s.heap.get? (s.heap.push { cls := .type "slice", data := .fields #[vl, vu, .none] }).objs.size with
    | none => rfl
    | some o =>
      have := Heap.lt_size q
      rw [Heap.size_push] at this
      exact absurd this (Nat.not_lt.mpr (Nat.le_succ _))
end
end Mine
end
section
open PySem PySem.W PyProof.Rows PySem.Calls
set_option maxRecDepth 100000
namespace Mine
inductive PairsAt (h : Heap) (bad : List Addr) : List Int → List Value → Prop
  | nil : PairsAt h bad [] []
  | cons {n : Int} {T : Addr} {t : Tok} {u : Value} {ns : List Int} {ys : List Value} : T ∉ bad → h.IsTuple T #[.int n t, u] → PairsAt h bad ns ys → PairsAt h bad (n :: ns) (.ref T :: ys)
theorem tuple_keep {h h' : Heap} {T : Addr} {xs : Array Value} (x : h.IsTuple T xs) (k : ∀ o, h.get? T = some o → h'.get? T = some o) : h'.IsTuple T xs := let ⟨o, e, r⟩ := x; ⟨o, k o e, r⟩
theorem PairsAt.keep {h h' : Heap} {bad : List Addr} {ns : List Int} {ys : List Value} (x : PairsAt h bad ns ys) (k : ∀ b o, b ∉ bad → h.get? b = some o → h'.get? b = some o) : PairsAt h' bad ns ys := by
  induction x with
  | nil => exact .nil
  | cons hb ht _ ih => exact .cons hb (tuple_keep ht fun o e => k _ o hb e) ih
theorem PairsAt.less {h : Heap} {bad bad' : List Addr} {ns : List Int} {ys : List Value} (x : PairsAt h bad ns ys) (hs : ∀ b ∈ bad', b ∈ bad) : PairsAt h bad' ns ys := by
  induction x with
  | nil => exact .nil
  | cons hb ht _ ih => exact .cons (fun hm => hb (hs _ hm)) ht ih
theorem PairsAt.snoc {h : Heap} {bad : List Addr} {ns : List Int} {ys : List Value} {n : Int} {T : Addr} {t : Tok} {u : Value} (x : PairsAt h bad ns ys) (hb : T ∉ bad) (ht : h.IsTuple T #[.int n t, u]) : PairsAt h bad (ns ++ [n]) (ys ++ [.ref T]) := by
  induction x with
  | nil => exact .cons hb ht .nil
  | cons a b _ ih => exact .cons a b ih
theorem PairsAt.length {h : Heap} {bad : List Addr} {ns : List Int} {ys : List Value} (x : PairsAt h bad ns ys) : ys.length = ns.length := by
  induction x with
  | nil => rfl
  | cons _ _ _ ih => rw [List.length_cons, List.length_cons, ih]
theorem PairsAt.get {h : Heap} {bad : List Addr} {ns : List Int} {ys : List Value} (x : PairsAt h bad ns ys) : ∀ {i : Nat} {y : Value}, ys[i]? = some y → ∃ n T t u, ns[i]? = some n ∧ y = .ref T ∧ T ∉ bad ∧ h.IsTuple T #[.int n t, u] := by
  induction x with
  | nil => intro i y e; simp at e
  | cons hb ht _ ih =>
    intro i y e
    cases i with
    | zero => simp at e; exact ⟨_, _, _, _, rfl, e.symm, hb, ht⟩
    | succ i => simp at e; obtain ⟨n, T, t, u, r⟩ := ih e; exact ⟨n, T, t, u, by simpa using r.1, r.2⟩
theorem ne_some_none {h : Heap} {a b : Addr} {o : Obj} (ha : h.get? a = none) (hb : h.get? b = some o) : a ≠ b := fun e => by rw [e, hb] at ha; cases ha
section
variable {prog : Program} {w : World} {A : Around} {E : Value → Shared → Prop} {R : Result → Shared → Prop} {s : Shared} {env : Env}
theorem pairs_loop {elt iter : PySem.Expr} {x : Str} {px : Pos} {scope : Scope} {pos : Pos} {I ax D : Addr} {cenv : Env} {vs : List Value} {ns : List Int} {m : Str → Option Value}
    (hh : A.handled = none) (hx : cenv.kindOf x = some .local) (hp : (cenv.scope.kind == .class || (cenv.scope.kind == .module && cenv.locals != cenv.globals)) = false)
    (hDI : D ≠ I) (hDC : D ≠ cenv.locals) (hIC : I ≠ cenv.locals) (haI : ax ≠ I) (haC : ax ≠ cenv.locals) (haD : ax ≠ D)
    (hit : s.heap.IsListIter I ax 0) (hl : s.heap.IsList ax vs.toArray) (hi : IntsAre vs ns) (hacc : s.heap.PlainList D #[]) (hn : s.heap.Ns cenv.locals m)
    (helt : ∀ a t s₂ m₂ E', s₂.heap.Ns cenv.locals m₂ → m₂ x = some (.int a t) →
      wpAny (model prog w) A (eval elt cenv) (fun y s₃ => (∃ T t' u, y = .ref T ∧ s₂.heap.get? T = none ∧ s₃.heap.IsTuple T #[.int a t', u]) ∧ Keeps s₂ s₃) E' s₂)
    (hR : ∀ h' tk m' ys, h'.Ns cenv.locals m' → h'.PlainList D (List.toArray ys) → PairsAt h' [cenv.locals, I, D] ns ys →
      (∀ b o, b ∉ [cenv.locals, I, D] → s.heap.get? b = some o → h'.get? b = some o) → R (.ok .next) { s with heap := h', toks := tk })
    (hsz : vs.length ≤ sizeLine) :
    codeAny (model prog w) A (.compLoop (.ListComp elt [⟨.Name x px, iter, [], 0⟩] scope pos) 0 (.ref I) (.ref D) cenv) R s := by
  have up3 : ∀ {b : Addr}, b ∉ [cenv.locals, I, D] → b ≠ cenv.locals ∧ b ≠ I ∧ b ≠ D := fun {b} h => by simpa [not_or] using h
  refine codeAny_compLoop_tests
    (fun k s' => ∃ h' tk m' ys i, s' = { s with heap := h', toks := tk } ∧ h'.IsListIter I ax i ∧ h'.IsList ax vs.toArray ∧ h'.PlainList D (List.toArray ys) ∧ h'.Ns cenv.locals m' ∧
      PairsAt h' [cenv.locals, I, D] (ns.take i) ys ∧ i ≤ vs.length ∧ k = vs.length + 1 - i ∧
      ∀ b o, b ∉ [cenv.locals, I, D] → s.heap.get? b = some o → h'.get? b = some o) ?_ (vs.length + 1)
    ⟨s.heap, s.toks, m, [], 0, rfl, hit, hl, hacc, hn, by simpa using PairsAt.nil, Nat.zero_le _, rfl, fun _ _ _ e => e⟩
  rintro k s' ⟨H, tk, m', ys, i, rfl, hit', hl', hacc', hn', hP, hile, rfl, hk⟩
  cases hv : vs.toArray[i]? with
  | none =>
    have hle : ns.length ≤ i := by rw [← hi.length]; simpa using hv
    refine wpAny_pyNext_list_end hh hit' hl' hv fun h₁ he₁ => ?_
    rw [List.take_of_length_le hle] at hP
    exact hR h₁ tk m' ys (hn'.extBut he₁ (Ne.symm hIC)) (hacc'.extBut he₁ hDI) (hP.keep fun b o hb e => he₁ b o (up3 hb).2.1 e) fun b o hb e => he₁ b o (up3 hb).2.1 (hk b o hb e)
  | some v =>
    have hvl : vs[i]? = some v := by simpa using hv
    have hlt : i < vs.length := (List.getElem?_eq_some_iff.mp hvl).1
    have hlt' : i < ns.length := by rw [← hi.length]; exact hlt
    obtain ⟨t, rfl⟩ : ∃ t, v = .int ns[i] t := by
      obtain ⟨t, e⟩ := hi.get i ns[i] (by simp [hlt'])
      rw [e] at hvl; exact ⟨t, (Option.some.inj hvl).symm⟩
    refine wpAny_pyNext_list_item hit' hl' hv fun h₁ hit₁ hs₁ => ?_
    refine wpAny_assign_Name (wpAny_storeName_local hx (hn'.sameBut hs₁ (Ne.symm hIC)) (fun h₂ hn₂ hs₂ => ?_) hp)
    refine wpAny_mono (Q := fun ok s₃ => ok = true ∧ s₃ = _) (wpAny_pure ⟨rfl, rfl⟩) (fun ok s₃ h₃ => ?_) fun _ _ e => e
    obtain ⟨rfl, rfl⟩ := h₃
    simp only [if_true]
    have up₂ : ∀ b o, b ∉ [cenv.locals, I, D] → H.get? b = some o → h₂.get? b = some o := fun b o hb e => hs₂.extBut b o (up3 hb).1 (hs₁.extBut b o (up3 hb).2.1 e)
    have hit₂ : h₂.IsListIter I ax (i + 1) := hit₁.extBut hs₂.extBut hIC
    have hl₂ : h₂.IsList ax vs.toArray := (hl'.extBut hs₁.extBut haI).extBut hs₂.extBut haC
    have hacc₂ : h₂.PlainList D (List.toArray ys) := (hacc'.extBut hs₁.extBut hDI).extBut hs₂.extBut hDC
    refine wpAny_mono (helt ns[i] t _ _ _ hn₂ (by simp)) (fun y s₄ h₄ => ?_) fun _ _ e => e
    obtain ⟨⟨T, t', u, rfl, hTnew, hT⟩, h₄, tk₄, rfl, hk₄⟩ := h₄
    have hTC : T ≠ cenv.locals := by obtain ⟨_, _, _, ho, _⟩ := hn₂; exact ne_some_none hTnew ho
    have hTI : T ≠ I := by obtain ⟨_, ho, _⟩ := hit₂; exact ne_some_none hTnew ho
    have hTD : T ≠ D := by obtain ⟨_, ho⟩ := hacc₂; exact ne_some_none hTnew ho
    have hTb : T ∉ [cenv.locals, I, D] := by simp [hTC, hTI, hTD]
    have hys : (List.toArray ys).size ≤ sizeLine := by
      have e1 := hP.length
      rw [List.length_take] at e1
      rw [List.size_toArray]; omega
    refine wpAny_list_append_plain (hsz := hys) (hacc₂.at fun o e => hk₄ _ o e) fun h₅ hl₅ hs₅ => ?_
    refine ⟨vs.length + 1 - (i + 1), by omega, h₅, tk₄, _, ys ++ [.ref T], i + 1, rfl, (hit₂.at fun o e => hk₄ _ o e).extBut hs₅.extBut (Ne.symm hDI), (hl₂.at fun o e => hk₄ _ o e).extBut hs₅.extBut haD, by rw [← List.push_toArray]; exact hl₅,
      (hn₂.keeps hk₄).sameBut hs₅ (Ne.symm hDC), ?_, hlt, rfl, fun b o hb e => hs₅.extBut b o (up3 hb).2.2 (hk₄ b o (up₂ b o hb (hk b o hb e)))⟩
    rw [List.take_add_one, List.getElem?_eq_getElem hlt', Option.toList_some]
    exact (hP.keep fun b o hb e => hs₅.extBut b o (up3 hb).2.2 (hk₄ b o (up₂ b o hb e))).snoc hTb (tuple_keep hT fun o e => hs₅.extBut T o hTD e)
theorem comp_pairs {elt iter : PySem.Expr} {x : Str} {px : Pos} {scope : Scope} {pos : Pos} {Q : Value → Shared → Prop}
    (hh : A.handled = none) (hfree : ∀ y ∈ scope.names, y.2 ≠ .free) (hcell : ∀ y ∈ scope.names, y.2 ≠ .cell) (hkind : scope.kind = .function)
    (hnames : ∀ y ∈ scope.names, y.2 = .local → scope.names.lookup y.1 = some .local) (hx : scope.names.lookup x = some .local)
    (h : wpAny (model prog w) A (eval iter env) (fun xv s₁ => ∃ ax vs ns, xv = .ref ax ∧ s₁.heap.IsList ax (List.toArray vs) ∧ IntsAre vs ns ∧ ns.length ≤ 1000 ∧
      (∀ C a t s₂ m₂ E', s₂.heap.Ns C m₂ → m₂ x = some (.int a t) →
        wpAny (model prog w) A (eval elt (compEnv scope C env)) (fun y s₃ => (∃ T t' u, y = .ref T ∧ s₂.heap.get? T = none ∧ s₃.heap.IsTuple T #[.int a t', u]) ∧ Keeps s₂ s₃) E' s₂) ∧
      (∀ D h' tk ys, s₁.heap.get? D = none → h'.PlainList D (List.toArray ys) → PairsAt h' [D] ns ys → s₁.heap.StaysIn h' → Q (.ref D) { s₁ with heap := h', toks := tk })) E s)
    (hs : ∀ x, foldedSetIterable iter env x = pure x := by intro _; rfl) :
    wpAny (model prog w) A (eval (.ListComp elt [⟨.Name x px, iter, [], 0⟩] scope pos) env) Q E s := by
  refine wpAny_ListComp hfree hkind hnames (wpAny_mono h (fun xv s₁ h₁ => ?_) fun _ _ e => e) hs
  obtain ⟨ax, vs, ns, rfl, hl, hi, hsz, helt, hQ⟩ := h₁
  refine wpAny_pyIter_list hl (wpAny_newObj_type (hd := by size_fits) (wpAny_newFunctionEnv hcell (by intro y hy; simp at hy) (fun h₁ hns₁ hsb₁ => ?_) hkind))
  dsimp only at hns₁ hsb₁ ⊢
  obtain ⟨ol, hol, hol'⟩ := id hl
  have hax : ax < s₁.heap.objs.size := Heap.lt_size hol
  generalize hH1 : s₁.heap.push { cls := .type "list_iterator", data := .fields #[.ref ax, .int 0 0] } = H1 at hns₁ hsb₁ ⊢
  have hD : H1.objs.size = s₁.heap.objs.size + 1 := by rw [← hH1, Heap.size_push]
  generalize hH2 : H1.push { cls := .type "list", dict := none, data := .seq ([] : List Value).toArray } = H2 at hns₁ hsb₁ ⊢
  have hC : H2.objs.size = s₁.heap.objs.size + 2 := by rw [← hH2, Heap.size_push, hD]
  have hDI : H1.objs.size ≠ s₁.heap.objs.size := by rw [hD]; exact Nat.succ_ne_self _
  have hDC : H1.objs.size ≠ H2.objs.size := by rw [hD, hC]; exact Nat.ne_of_lt (Nat.lt_succ_self _)
  have hIC : s₁.heap.objs.size ≠ H2.objs.size := by rw [hC]; exact Nat.ne_of_lt (Nat.lt_succ_of_lt (Nat.lt_succ_self _))
  have below : ∀ b, b < s₁.heap.objs.size → b ∉ [H2.objs.size, s₁.heap.objs.size, H1.objs.size] := fun b hb => by
    simp only [List.mem_cons, List.not_mem_nil, or_false, not_or]
    exact ⟨by rw [hC]; exact Nat.ne_of_lt (Nat.lt_succ_of_lt (Nat.lt_succ_of_lt hb)), Nat.ne_of_lt hb, by rw [hD]; exact Nat.ne_of_lt (Nat.lt_succ_of_lt hb)⟩
  have old : ∀ b o, s₁.heap.get? b = some o → h₁.get? b = some o := fun b o e =>
    hsb₁.extBut b o (fun q => below b (Heap.lt_size e) (by rw [q]; exact .head _)) (Heap.get?_push_of_some _ (hH2 ▸ Heap.get?_push_of_some _ (hH1 ▸ Heap.get?_push_of_some _ e)))
  have hit : h₁.IsListIter s₁.heap.objs.size ax 0 :=
    ⟨_, hsb₁.extBut _ _ hIC (Heap.get?_push_of_some _ (hH2 ▸ Heap.get?_push_of_some _ (hH1 ▸ Heap.get?_push_size _ rfl))), rfl, rfl⟩
  have hacc : h₁.PlainList H1.objs.size #[] := ⟨_, hsb₁.extBut _ _ hDC (Heap.get?_push_of_some _ (hH2 ▸ Heap.get?_push_size _ rfl))⟩
  have hl₁ : h₁.IsList ax vs.toArray := ⟨ol, old _ _ hol, hol'⟩
  have hnew : s₁.heap.get? H1.objs.size = none := by
    cases e : s₁.heap.get? H1.objs.size with
    | none => rfl
    | some o' => have := Heap.lt_size e; rw [hD] at this; exact absurd this (Nat.not_lt.mpr (Nat.le_succ _))
  have ne3 : ax ≠ s₁.heap.objs.size ∧ ax ≠ H2.objs.size ∧ ax ≠ H1.objs.size := by
    have := below ax hax
    simp only [List.mem_cons, List.not_mem_nil, or_false, not_or] at this
    exact ⟨this.2.1, this.1, this.2.2⟩
  have hszl : vs.length ≤ sizeLine := by rw [hi.length, sizeLine_eq]; omega
  have loop : ∀ s₂ : Shared, s₂ = { s₁ with heap := h₁, toks := s₁.toks + ([] : List (Str × Value)).length } →
      codeAny (model prog w) A (.compLoop (.ListComp elt [⟨.Name x px, iter, [], 0⟩] scope pos) 0 (.ref s₁.heap.objs.size) (.ref H1.objs.size) (compEnv scope H2.objs.size env))
        (fun r s' => ∃ m, s'.heap.Ns H2.objs.size m ∧ ∀ h', Heap.SameBut H2.objs.size s'.heap h' →
          match r with | .ok _ => Q (.ref H1.objs.size) { s' with heap := h' } | .error x => wpAny (model prog w) A (passOn "comprehension.variables-let-go" x (compEnv scope H2.objs.size env)) Q E { s' with heap := h' }) s₂ := by
    rintro s₂ rfl
    refine pairs_loop (cenv := compEnv scope H2.objs.size env) hh hx (by simp [compEnv, hkind]) hDI hDC hIC ne3.1 ne3.2.1 ne3.2.2 hit hl₁ hi hacc hns₁
      (fun a t s₂ m₂ E' hn hm => helt _ a t s₂ m₂ _ hn hm) (fun h' tk m' ys hn ha hP hk => ?_) hszl
    refine ⟨m', hn, fun h'' hs'' => ?_⟩
    refine hQ _ h'' tk ys hnew (ha.extBut hs''.extBut hDC) ((hP.keep fun b o hb e => hs''.extBut b o (fun q => hb (by rw [q]; exact .head _)) e).less fun b hb => by rw [List.mem_singleton.mp hb]; simp) fun b o e =>
      hs''.extBut b o (fun q => below b (Heap.lt_size e) (by rw [q]; exact .head _)) (hk b o (below b (Heap.lt_size e)) (old b o e))
  exact codeAny_compStart_list (loop _ rfl) (wpAny_pyIter_listiter hit (loop _ rfl))
end
end Mine
end
section
open PySem PySem.W PyProof.Rows PySem.Calls
set_option maxRecDepth 100000
namespace Mine
theorem pairs_entry : entryFor table "dict.update.loop" = some Builtin.«dict.update.loop» := entryFor_of_tree (by kernel_rfl)
theorem pairs_plain : plainId "dict.update.loop" = true := by decide +kernel
theorem keys_none : typeLookup (.type "list") (Str.ofString "keys") = pure none := am_miss_of_fast (by kernel_rfl)
theorem list_no_dict : isSubtype (.type "list") (.type "dict") = pure false := by rw [isSubtype_type]; kernel_rfl
section
variable {prog : Program} {w : World} {A : Around} {E : Value → Shared → Prop} {R : Result → Shared → Prop} {s : Shared}
theorem no_keys {a : Addr} {xs : Array Value} {Q : Option Value → Shared → Prop} (hx : s.heap.PlainList a xs) (hA : A.handled = none) (h : ∀ h' tk, s.heap.StaysIn h' → Q none { s with heap := h', toks := tk }) :
    wpAny (model prog w) A (getAttr? (.ref a) (Str.ofString "keys")) Q E s := by
  obtain ⟨k, hx⟩ := hx
  obtain ⟨hp, g, d, tk, os⟩ := s
  have hT : ∀ tk', (⟨hp, g, d, tk', os⟩ : Shared).TypeIs (.ref a) "list" := fun _ => ⟨_, hx, rfl⟩
  have f1 := sub_AttributeError
  have f3 := F.slot_list_getattribute.lookup
  have f4 := F.slot_list_getattribute.bind (.ref a)
  have f5 := am_list_getattr_none
  unfold getAttr? getAttrBy? getAttrBy
  repeat (any_goals (first | assumption | exact hT _ | ((with_reducible show wpAny _ _ (call (Value.builtin "list.__getattribute__") _ _) _ _ _); refine call_meets F.slot_list_getattribute (hT _) am_entry_list_getattribute (F.args_list_getattribute_2 _ _) (meets_getattribute_miss_list a xs k _ _ _ keys_none (by decide +kernel) (by decide +kernel)) ⟨hx, hA, fun h' tk' e hx' => ?_⟩) | wp_step))
  obtain ⟨t', u', he⟩ := hx'.there
  show wpAny _ _ (getattributeRaised _ _ _ _ _ _ _) _ _ _
  unfold getattributeRaised
  repeat (any_goals (first | assumption | wp_step))
  exact h _ _ hx'.keeps
theorem dict_loop {I l d : Addr} {ys : List Value} {ns : List Int} (hh : A.handled = none) (hlI : l ≠ I) (hdI : d ≠ I) (hdl : d ≠ l) (hnd : ns.Nodup) (hlen : ns.length ≤ 1000) :
    ∀ (k i : Nat) (s : Shared) (z : Int) (tz : Tok) (kvs : List (Int × Value)), ns.length - i = k → i ≤ ns.length → s.heap.IsListIter I l i → s.heap.IsList l ys.toArray → PairsAt s.heap [I, d] ns ys →
      s.heap.DictOf (intKind prog w) d kvs → kvs.map (·.1) = ns.take i →
      (∀ h' tk kvs, h'.DictOf (intKind prog w) d kvs → kvs.map (·.1) = ns → (∀ b o, b ∉ [I, d] → s.heap.get? b = some o → h'.get? b = some o) → R (.ok (.ret .none)) { s with heap := h', toks := tk }) →
      codeAny (model prog w) A (.builtin "dict.update.loop" ⟨[.ref d, .ref I, .int z tz, .none], []⟩) R s := by
  have hh1 : A.in1.handled = none := by simp [hh]
  have up2 : ∀ {b : Addr}, b ∉ [I, d] → b ≠ I ∧ b ≠ d := fun {b} h => by simpa [not_or] using h
  intro k
  induction k with
  | zero =>
    intro i s z tz kvs hk hi hit hl hP hD hK hR
    have hin : i = ns.length := by omega
    subst hin
    have hv : ys.toArray[ns.length]? = none := by simp [hP.length]
    refine codeAny_builtin pairs_entry ?_
    rw [Around.under_plainId pairs_plain _]
    show wpAny _ A.in1 (pyNext (.ref I) >>= _) _ _ s
    refine wpAny_bind (wpAny_pyNext_list_end hh1 hit hl hv fun h₁ he₁ => ?_)
    show wpAny _ A.in1 (Builtin.Dict.addKeywords d [] >>= fun _ => ret Value.none) _ _ _
    refine wpAny_bind (wpAny_pure (wpAny_pure (hR h₁ s.toks kvs ?_ (by rw [hK, List.take_length]) fun b o hb e => he₁ b o (up2 hb).1 e)))
    obtain ⟨o, es, ep, ho, r⟩ := hD
    exact ⟨o, es, ep, he₁ d o hdI ho, r⟩
  | succ k ih =>
    intro i s z tz kvs hk hi hit hl hP hD hK hR
    have hlt : i < ns.length := by omega
    have hlt' : i < ys.length := by rw [hP.length]; exact hlt
    have hv : ys.toArray[i]? = some ys[i] := by simp [hlt']
    obtain ⟨n, T, t, u, en, ey, hTb, hT⟩ := hP.get (i := i) (y := ys[i]) (by simp [hlt'])
    refine codeAny_builtin pairs_entry ?_
    rw [Around.under_plainId pairs_plain _]
    show wpAny _ A.in1 (pyNext (.ref I) >>= _) _ _ s
    refine wpAny_bind (wpAny_pyNext_list_item hit hl hv fun h₁ hit₁ hs₁ => ?_)
    rw [ey]
    have hT₁ : h₁.IsTuple T #[.int n t, u] := tuple_keep hT fun o e => hs₁.extBut T o (up2 hTb).1 e
    have hD₁ : h₁.DictOf (intKind prog w) d kvs := hD.sameBut hs₁ hdI
    obtain ⟨oT, hoT, hcT, kT, hdT⟩ := id hT₁
    show wpAny _ A.in1 (holding [Value.ref T] _ >>= _) _ _ _
    refine wpAny_bind (wpAny_holding ?_)
    refine wpAny_bind (wpAny_tryCatch ?_)
    unfold Builtin.Dict.pairItems
    refine wpAny_bind (wpAny_typeOf hT₁.typeIs ?_)
    rw [if_pos (by decide)]
    refine wpAny_bind (wpAny_seqItems hoT hdT (wpAny_pure ?_))
    show wpAny _ A.in1 (holding [Value.int n t, u] (dictSet d (.int n t) u)) _ _ _
    have hkl : kvs.length ≤ sizeLine := by
      have e := congrArg List.length hK
      rw [List.length_map, List.length_take] at e
      rw [sizeLine_eq]; omega
    refine wpAny_holding (wpAny_dictSet_pairs (knd := intKind prog w) (k := n) (intKind_is _ _ _ _) hD₁ (fun h₂ hD₂ hs₂ => ?_) hkl)
    have hne : n ∉ kvs.map (·.1) := by
      rw [hK]
      intro hm
      obtain ⟨j, hj, ej⟩ := List.getElem_of_mem hm
      rw [List.length_take] at hj
      rw [List.getElem_take] at ej
      have en' : ns[i] = n := by simpa [hlt] using en
      have := (List.getElem_inj hnd).mp (ej.trans en'.symm)
      omega
    have hst : stored kvs n u = kvs ++ [(n, u)] := by
      unfold stored
      rw [if_neg ?_]
      rw [List.any_eq_true]
      rintro ⟨x, hx, he⟩
      exact hne (List.mem_map.mpr ⟨x, hx, of_decide_eq_true he⟩)
    rw [hst] at hD₂
    refine wpAny_pure ⟨plainId_quiet pairs_plain _, ih (i + 1) _ (z + 1) _ (kvs ++ [(n, u)]) (by omega) hlt (hit₁.extBut hs₂.extBut (Ne.symm hdI)) ((hl.extBut hs₁.extBut hlI).extBut hs₂.extBut (Ne.symm hdl))
      (hP.keep fun b o hb e => hs₂.extBut b o (up2 hb).2 (hs₁.extBut b o (up2 hb).1 e)) hD₂ ?_ fun h' tk kvs' hD' hK' hk' => hR h' tk kvs' hD' hK' fun b o hb e => hk' b o hb (hs₂.extBut b o (up2 hb).2 (hs₁.extBut b o (up2 hb).1 e))⟩
    rw [List.map_append, hK, List.take_add_one, en]; rfl
end
end Mine
end
section
open PySem PySem.W PyProof.Rows PySem.Calls
set_option maxRecDepth 100000
namespace Mine
section
variable {prog : Program} {w : World} {A : Around} {E : Value → Shared → Prop} {R : Result → Shared → Prop} {s : Shared}
theorem dict_of_pairs {l : Addr} {ys : List Value} {ns : List Int} {Q : Value → Shared → Prop} (hh : A.handled = none) (hl : s.heap.PlainList l ys.toArray) (hP : PairsAt s.heap [l] ns ys) (hnd : ns.Nodup) (hlen : ns.length ≤ 1000)
    (h : ∀ h' tk o kvs, s.heap.StaysIn h' → h'.get? s.heap.objs.size = some o → o.IsDictOf (intKind prog w) kvs → kvs.length = ns.length → s.heap.get? s.heap.objs.size = none → Q (.ref s.heap.objs.size) { s with heap := h', toks := tk }) :
    wpAny (model prog w) A (call (.type "dict") [.ref l]) Q E s := by
  have hfresh : s.heap.get? s.heap.objs.size = none := Heap.get?_none_of_le (Nat.le_refl _)
  refine callType_codes (Q₁ := fun obj s₁ => obj = .ref s.heap.objs.size ∧ s₁ = { s with heap := s.heap.push { cls := .type "dict", data := .dict #[] } }) F.kt_called_dict (F.kt_typeCall_dict_1 _) F.entry_dict_init (kt_code_dict_new _ ⟨rfl, rfl⟩) ?_
  rintro obj s₁ ⟨rfl, rfl⟩
  have hnew : (s.heap.push { cls := .type "dict", data := .dict #[] }).DictOf (intKind prog w) s.heap.objs.size [] := Heap.DictOf.new s.heap
  have hl' : (s.heap.push { cls := .type "dict", data := .dict #[] }).PlainList l ys.toArray := hl.at fun o e => Heap.get?_push_of_some _ e
  refine ⟨hnew.typeIs, F.args_dict_init_2 _ _, ?_⟩
  unfold Builtin.«dict.__init__»
  refine wpAny_bind ?_
  unfold Builtin.Dict.selfAndRest
  refine wpAny_bind (wpAny_notOrdered_dict hnew.typeIs ?_)
  show wpAny _ _ (pure (s.heap.objs.size, [Value.ref l])) _ _ _
  refine wpAny_pure ?_
  show wpAny _ _ (Builtin.Dict.updateFrom "dict.__init__" s.heap.objs.size (.ref l) [] .none) _ _ _
  unfold Builtin.Dict.updateFrom
  refine wpAny_bind (wpAny_typeOf hl'.isList.typeIs ?_)
  rw [if_pos (by decide)]
  refine wpAny_bind (no_keys hl' (by simp [hh]) fun h₁ tk₁ k₁ => ?_)
  rw [if_pos (by rfl)]
  have hl₁ : h₁.PlainList l ys.toArray := hl'.at fun o e => k₁ _ o e
  have hlS : l < s.heap.objs.size := by obtain ⟨_, e⟩ := hl; exact Heap.lt_size e
  have hd₁ : ∃ o, h₁.get? s.heap.objs.size = some o := ⟨_, k₁ _ _ (Heap.get?_push_size _ rfl)⟩
  have hdI : s.heap.objs.size ≠ h₁.objs.size := by obtain ⟨_, e⟩ := hd₁; exact Nat.ne_of_lt (Heap.lt_size e)
  have hlI : l ≠ h₁.objs.size := by obtain ⟨_, e⟩ := hl₁; exact Nat.ne_of_lt (Heap.lt_size e)
  refine wpAny_bind (wpAny_rule (wpAny_bind (wpAny_pyIter_list hl₁.isList ?_)))
  refine wpAny_pure ⟨plainId_quiet pairs_plain _, ?_⟩
  have up : ∀ b o, s.heap.get? b = some o → (h₁.push { cls := .type "list_iterator", data := .fields #[.ref l, .int 0 0] }).get? b = some o := fun b o e => Heap.get?_push_of_some _ (k₁ _ _ (Heap.get?_push_of_some _ e))
  have off : ∀ b o, s.heap.get? b = some o → b ∉ [h₁.objs.size, s.heap.objs.size] := fun b o e hm => by
    rcases List.mem_cons.mp hm with rfl | hm
    · exact absurd (Heap.lt_size (k₁ _ _ (Heap.get?_push_of_some _ e))) (Nat.lt_irrefl _)
    · rw [List.mem_singleton.mp hm] at e; exact absurd (Heap.lt_size e) (Nat.lt_irrefl _)
  have hP₂ : ∀ {ns : List Int} {ys : List Value}, PairsAt s.heap [l] ns ys → PairsAt (h₁.push { cls := .type "list_iterator", data := .fields #[.ref l, .int 0 0] }) [h₁.objs.size, s.heap.objs.size] ns ys := fun x => by
    induction x with
    | nil => exact .nil
    | cons hb ht _ ih => exact .cons (by obtain ⟨o, e, _⟩ := ht; exact off _ o e) (tuple_keep ht fun o e => up _ o e) ih
  refine dict_loop (by simp [hh]) hlI hdI (Nat.ne_of_gt hlS) hnd hlen ns.length 0 _ 0 _ [] (by omega) (Nat.zero_le _) ⟨_, Heap.get?_push_size _ rfl, rfl, rfl⟩ (hl₁.isList.push _) (hP₂ hP) ?_ rfl fun h' tk kvs hD hK hk => ?_
  · obtain ⟨o, es, ep, ho, r⟩ := hnew
    exact ⟨o, es, ep, Heap.get?_push_of_some _ (k₁ _ _ ho), r⟩
  · obtain ⟨o, ho, hd⟩ := Heap.dictOf_iff.mp hD
    exact ⟨rfl, h h' tk o kvs (fun b o e => hk b o (off b o e) (up b o e)) ho hd (by rw [← hK, List.length_map]) hfresh⟩
theorem len_made {h₀ : Heap} {L d : Addr} {news : List (Addr × Obj)} {o : Obj} {kvs : List (Int × Value)} {n : Nat} {Q : Value → Shared → Prop} (N : News h₀ L s.heap news) (hm : (d, o) ∈ news) (hd : o.IsDictOf (intKind prog w) kvs) (lo : (d == sysModules) = false) (hn : kvs.length = n) (hf : n ≤ 1000)
    (h : Q (.int (n : Nat) (s.toks + 1)) { s with toks := s.toks + 1 + 1 }) : wpAny (model prog w) A (call (.builtin "len") [.ref d]) Q E s := by
  subst hn
  exact call_len_dict lo (Heap.dictOf_iff.mpr ⟨o, (N _ hm).1, hd⟩) (by omega) h
end
end Mine
end
section
open PySem PySem.W PyProof.Rows PySem.Calls
set_option maxRecDepth 100000
namespace Mine
local macro_rules | `(tactic| walk_at "mine enter") => `(tactic| (refine' call_raw ?k1 ?k2 ?k3 ?k4 ?k5 ?kA ?kF ?kK ?k6 ?k7 ?k8 ?k9 ?kB ?_ ?c2 ?c3 ?c4 ?c5; (case kA => exact rfl); (case kF => exact rfl); (case kK => assumption); (case k1 => k_asm); (case k2 => k_asm); (case k3 => k_asm); (case k4 => k_asm); (case k5 => k_asm); (case k6 => k_is); (case k7 => k_is); (case k8 => ktr_room); (case k9 => exact BindsTo.of_eq rfl); (case c5 => decide); (case kB => exact locs rfl); (case c2 => exact rfl); (case c3 => exact rfl); (case c4 => exact rfl); k_whole; intro L' h' tk' FG' F' N' B' X' T' st' lt'; (try k_lt lt'); (try dsimp only); (try k_lift B'); (try k_fold)))
local macro_rules | `(tactic| walk_at "mine steps") => `(tactic| repeat' (first | (k_unfold; (try dsimp only)) | ((fail_if_success (with_reducible show wpAny _ _ (pyIter (Value.ref _)) _ _ _)); (fail_if_success (with_reducible show InvEndN _ _ _ _ _ _ _)); (fail_if_success (with_reducible show UnrEnd _ _ _ _ _ _ _)); (fail_if_success (with_reducible show _ ∧ Keeps _ _)); (fail_if_success (with_reducible show ∃ _, _)); (fail_if_success (with_reducible show wpAny _ _ (exec (Stmt.Assign _ (PySem.Expr.ListComp _ _ _ _) _) _) _ _ _)); (fail_if_success (with_reducible show wpAny _ _ (execs (Stmt.Assign [PySem.Expr.Tuple _ _ _] (PySem.Expr.Tuple _ _ _) _ :: _) _) _ _ _)); (fail_if_success (with_reducible show wpAny _ _ (subscriptTail _ (PySem.Expr.Slice _ _ _ _) _ _) _ _ _)); (fail_if_success (with_reducible show wpAny _ _ (binaryOp Operator.Add (Value.ref _) (Value.ref _)) _ _ _)); (fail_if_success (with_reducible show wpAny _ _ (PySem.call (Value.ref _) _ _) _ _ _)); (fail_if_success (with_reducible show wpAny _ _ (eval (Expr.ListComp _ _ _ _) _) _ _ _)); first | walk1 | (dsimp only; walk1)) | fail "no step"))
local macro_rules | `(tactic| walk_at "execs cons") => `(tactic| ((with_reducible refine wpAny_execs_cons ?_); try dsimp only))
local macro_rules | `(tactic| walk_at "execs nil") => `(tactic| (with_reducible refine wpAny_execs_nil ?_))
local macro_rules | `(tactic| k_all) => `(tactic| assumption)
local macro_rules | `(tactic| walk_at "mine enterC") => `(tactic| (refine' call_rawC ?k1 ?k2 ?k3 ?k4 ?k5 ?kA ?kF ?kK ?k6 ?k7 ?k8 ?k9 ?kB ?kD ?_ ?c2 ?c3 ?c4; (case kA => exact rfl); (case kF => exact rfl); (case kK => assumption); (case k1 => k_asm); (case k2 => k_asm); (case k3 => k_asm); (case k4 => k_asm); (case k5 => k_asm); (case k6 => k_is); (case k7 => k_is); (case k8 => ktr_room); (case k9 => exact BindsTo.of_eq rfl); (case kB => exact rfl); (case kD => decide +kernel); (case c2 => exact rfl); (case c3 => exact rfl); (case c4 => exact rfl); k_whole; intro L' h' tk' cells' FG' F' N' Y' B' X' T' st' lt'; (try k_lt lt'); k_cells Y'; (try simp only [List.cons_append, List.nil_append] at N'); (try dsimp only); (try k_lift B'); (try k_fold)))
local macro_rules | `(tactic| walk_at "mine stepsD") => `(tactic| repeat' (first | (k_unfold; (try dsimp only)) | ((fail_if_success (with_reducible show wpAny _ _ (pyIter (Value.ref _)) _ _ _)); (fail_if_success (with_reducible show InvEndN _ _ _ _ _ _ _)); (fail_if_success (with_reducible show UnrEnd _ _ _ _ _ _ _)); (fail_if_success (with_reducible show _ ∧ Keeps _ _)); (fail_if_success (with_reducible show ∃ _, _)); (fail_if_success (with_reducible show wpAny _ _ (exec (Stmt.Assign _ (PySem.Expr.ListComp _ _ _ _) _) _) _ _ _)); (fail_if_success (with_reducible show wpAny _ _ (execs (Stmt.Assign [PySem.Expr.Tuple _ _ _] (PySem.Expr.Tuple _ _ _) _ :: _) _) _ _ _)); (fail_if_success (with_reducible show wpAny _ _ (subscriptTail _ (PySem.Expr.Slice _ _ _ _) _ _) _ _ _)); (fail_if_success (with_reducible show wpAny _ _ (binaryOp Operator.Add (Value.ref _) (Value.ref _)) _ _ _)); (fail_if_success (with_reducible show wpAny _ _ (PySem.call (Value.ref _) _ _) _ _ _)); (fail_if_success (with_reducible show wpAny _ _ (eval (Expr.ListComp _ _ _ _) _) _ _ _)); (try dsimp only); walk1) | fail "no step"))
local macro_rules | `(tactic| walk_at "mine enterN") => `(tactic| (refine' call_rawN ?k1 ?k2 ?k3 ?k4 ?k5 ?kA ?kF ?kK ?k6 ?k7 ?k8 ?k9 ?kB ?_ ?c2 ?c3 ?c4 ?c5; (case kA => exact rfl); (case kF => exact rfl); (case kK => assumption); (case k1 => k_asm); (case k2 => k_asm); (case k3 => k_asm); (case k4 => k_asm); (case k5 => k_asm); (case k6 => k_mem); (case k7 => exact codeRec_news (by k_asm) (by k_mem) (by assumption) (by assumption)); (case k8 => ktr_room); (case k9 => exact BindsTo.of_eq rfl); (case c5 => decide); (case kB => exact locs rfl); (case c2 => exact rfl); (case c3 => exact rfl); (case c4 => exact rfl); k_whole; intro L' h' tk' FG' F' N' B' X' T' st' lt'; (try k_lt lt'); (try dsimp only); (try k_lift B'); (try k_fold)))
local macro_rules | `(tactic| walk_at "subscriptTail Name Name ref int") => `(tactic| (k_here; (with_unfolding_all refine' item_ints ?k1 ?k2 ?k3 ?k4 ?k5 ?_ ?k6; (case k1 => first | exact is_list_of (by with_reducible assumption) (by with_reducible assumption) | exact isList_of (by with_reducible assumption) (by k_mem)); (case k2 => with_reducible assumption); (case k3 => omega); (case k4 => omega); (case k5 => omega); (case k6 => with_unfolding_all rfl); k_whole); intro tI))
local macro_rules | `(tactic| walk_at "call builtin:len") => `(tactic| (k_here; (with_reducible show wpAny _ _ (PySem.call (Value.builtin _) [Value.ref _]) _ _ _); k_dflt (refine' len_known ?k1 ?k2 ?k3 ?k4 ?_; (case k1 => k_asm); (case k2 => k_mem); (case k3 => first | with_reducible assumption | exact IntsAre.length (by with_reducible assumption)); (case k4 => omega); k_whole)))
local macro_rules | `(tactic| walk_at "exec For Name Call cons nil") => `(tactic| (k_here; (rename Fr _ _ _ _ => lF'); (with_unfolding_all refine' For_invVF (hE := ?kE) lF' ?k1 ?k2 ?_; (case kE => first | with_reducible assumption | passes_own); (case k1 => exact rfl); (case k2 => exact rfl); k_whole)))
local macro_rules | `(tactic| walk_at "exec For Name List cons nil") => `(tactic| (k_here; (rename Fr _ _ _ _ => lF'); (with_unfolding_all refine' For_invVF (hE := ?kE) lF' ?k1 ?k2 ?_; (case kE => first | with_reducible assumption | passes_own); (case k1 => exact rfl); (case k2 => exact rfl); k_whole)))
noncomputable def edgeIs (ns : List Int) (c : Int) (k : Nat) : Bool := (c.fdiv (2 ^ k)).fmod 2 = 0 && ns.any (fun x => x == c + 2 ^ k)
noncomputable def inner (ns : List Int) (c : Int) : Nat → Nat → Nat
  | 0, a => a
  | k + 1, a => if edgeIs ns c k then inner ns c k a + 1 else inner ns c k a
noncomputable def edges (ns : List Int) : Nat := ns.foldl (fun a c => inner ns c 3 a) 0
noncomputable def edgesTo (ns : List Int) (i : Nat) : Nat := (ns.take i).foldl (fun a c => inner ns c 3 a) 0
theorem inner_le (ns : List Int) (c : Int) : ∀ k a, inner ns c k a ≤ a + k
  | 0, a => Nat.le_refl _
  | k + 1, a => by
    have := inner_le ns c k a
    unfold inner
    split <;> omega
theorem inner_succ (ns : List Int) (c : Int) (k a : Nat) : inner ns c (k + 1) a = if edgeIs ns c k then inner ns c k a + 1 else inner ns c k a := rfl
theorem edgesTo_succ {ns : List Int} {i : Nat} {n : Int} (h : ns[i]? = some n) : edgesTo ns (i + 1) = inner ns n 3 (edgesTo ns i) := by
  unfold edgesTo
  rw [List.take_add_one, h]; simp
theorem edgesTo_le (ns : List Int) : ∀ i, edgesTo ns i ≤ 3 * i
  | 0 => by simp [edgesTo]
  | i + 1 => by
    have := edgesTo_le ns i
    cases h : ns[i]? with
    | none =>
      have e : edgesTo ns (i + 1) = edgesTo ns i := by unfold edgesTo; rw [List.take_add_one, h]; simp
      omega
    | some n =>
      have := inner_le ns n 3 (edgesTo ns i)
      rw [edgesTo_succ h]; omega
theorem edgesTo_all (ns : List Int) : edgesTo ns ns.length = edges ns := by unfold edgesTo edges; rw [List.take_length]

theorem mem_app_of {α : Type} {q p : α} {own : List α} (own2 : List α) (h : p ∈ q :: own) : p ∈ q :: (own ++ own2) := by
  rcases List.mem_cons.mp h with rfl | h
  · exact .head _
  · exact .tail _ (List.mem_append_left _ h)
theorem off_app {own own2 rest : List (Addr × Obj)} {l : Addr} {o o' : Obj} (h : OwnOff own ([(l, o)].map (·.1))) (h2 : OwnOff own2 (((l, o') :: rest).map (·.1))) : ∀ p ∈ own ++ own2, p.1 ≠ l := fun p hp => by
  rcases List.mem_append.mp hp with q | q
  · exact h p q l (.head _)
  · exact h2 p q l (.head _)
set_option maxHeartbeats 8000000 in
theorem edges_spec (w : World) {p : Program} {loose : List Str} {mean : ExcName → Option Value} {mg mb : Str → Option Value}
  {dp un : Nat} {gd : Option (List Code)} {cn : Str} {cs : Scope} {a : Addr} {ccd : Value} {cl : List (Str × Addr)} {outer : List Env} {A₀ : Around} {base h₀ : Heap} {L : Addr} {m : Str → Option Value} {s : Shared} {Q E : Value → Shared → Prop}
  (B : Below A₀ base outer h₀) (F : Fr h₀ L s.heap m) (X : (hd.heap_39 w.params).In h₀) (T : Top p loose mean mg mb h₀) (hke : cs.kind = .function)
  (hd : dp + 1 < recursionLimit) (hu : un + 8 < cLine)
  {l : Addr} {vs : List Value} {ns : List Int}
  (hl : s.heap.IsList l vs.toArray) (hi : IntsAre vs ns) (hn : ns.length ≤ 8) (hr : ∀ x ∈ ns, 0 ≤ x ∧ x < 8)
  (hQ : ∀ h' tk r ws v, s.heap.StaysIn h' → h'.get? r = some (W.listOf (List.toArray ws) v) → ws.length = edges ns → s.heap.get? r = none → Q (.ref r) { s with heap := h', toks := tk }) :
  wpAny (model PySem.Challenge.rw_hn0001_01.row.prog w) (ktrTop dp un gd cn cs L a ccd cl outer) (call (.ref 56) [.ref l]) Q E s := by
  have N : News h₀ L s.heap [] := News.nil
  revert X
  k_fill
  intro X
  refine wpAny_call ?_
  w_top off
  k_dflt (walk_at "mine enter")
  have hl' : (gnd s.heap []).IsList l vs.toArray := hl
  clear hl
  have hst : ∀ b o, s.heap.get? b = some o → (gnd s.heap []).get? b = some o := fun _ _ e => e
  walk_at "mine steps"
  rename Fr _ _ _ _ => F1
  rename News _ _ _ _ => N1
  have hbnd : ∀ i, i ≤ ns.length → edgesTo ns i ≤ 24 := fun i h => Nat.le_trans (edgesTo_le ns i) (by omega)
  with_unfolding_all refine iter_invN (fun i m nx => (∃ (ws : List Value) (v : Nat), nx = [(_, W.listOf ws.toArray v)] ∧ ws.length = edgesTo ns i) ∧ m "found" = some (.ref _) ∧ m "lot" = some (.ref l)) (by rfl) hl' (by assumption) F1 N1 ⟨⟨[], 0, rfl, rfl⟩, rfl, rfl⟩ ?_ ?_
  · clear F1 N1
    rintro i n t m₁ nx h tk own hni _ hoff ⟨⟨ws, v, rfl, hws⟩, hm1, hm2⟩ F1 N1
    k_fold
    have hlt : i < ns.length := by
      by_cases q : i < ns.length
      · exact q
      · rw [List.getElem?_eq_none (by omega)] at hni; cases hni
    have hb0 := hbnd i (by omega)
    have hstep := edgesTo_succ hni
    rw [fix2 hm1 hm2] at F1
    simp only [List.cons_append, List.nil_append] at N1
    walk_at "mine steps"
    rename Fr _ _ _ _ => F2
    rename News _ _ _ _ => N2
    with_unfolding_all refine iter_rangeN (n := 3) (fun j m nx => (∃ (ws : List Value) (v : Nat), nx = (_, W.listOf ws.toArray v) :: own ∧ ws.length = inner ns n j (edgesTo ns i)) ∧ m "found" = some (.ref _) ∧ m "lot" = some (.ref l) ∧ m "corner" = some (.int n t)) (by rfl) (by assumption) (by rfl) (by rfl) F2 N2 ⟨⟨ws, v, rfl, hws⟩, rfl, rfl, rfl⟩ ?_ ?_
    · clear F2 N2
      rintro j t m₁ nx h tk own2 hj hoff2 ⟨⟨ws, v, rfl, hws⟩, hm1, hm2, hm3⟩ F1 N1
      rw [fix3 hm1 hm2 hm3] at F1
      simp only [List.cons_append] at N1
      k_fold
      have hb : ws.length ≤ 1000 := by have := inner_le ns n j (edgesTo ns i); omega
      have hstep2 := inner_succ ns n j (edgesTo ns i)
      rw [Int.zero_add] at F1
      have hk1 : (0 : Int) ≤ (j : Int) := by omega
      have hk2 : (j : Int) < 3 := by omega
      have hne := off_app hoff hoff2
      walk_at "mine steps"
      · rename Fr _ _ _ _ => F3
        rename News _ _ _ _ => N3
        rename (_ : Bool) = true => hin
        rename (_ : Int) = 0 => hz
        rw [Int.toNat_natCast] at hz hin
        rw [List.push_toArray] at N3
        rw [if_pos (by unfold edgeIs; rw [hz, hin]; rfl), ← hws] at hstep2
        exact InvEndN.intro F3 N3 (nx := (_, W.listOf (ws ++ [_]).toArray (v + 1)) :: own) ⟨⟨ws ++ [_], v + 1, rfl, by rw [hstep2, List.length_append]; rfl⟩, rfl, rfl, rfl⟩ rfl (by intro p hp; exact List.Mem.tail _ (mem_app_of own2 hp)) (fun p hp => .tail _ (.tail _ (List.mem_append_right _ hp)))
      · rename Fr _ _ _ _ => F3
        rename News _ _ _ _ => N3
        rename (_ : Bool) = false => hin
        rename (_ : Int) = 0 => hz
        rw [Int.toNat_natCast] at hz hin
        rw [if_neg (by unfold edgeIs; rw [hz, hin]; decide), ← hws] at hstep2
        exact InvEndN.intro F3 N3 (nx := (_, W.listOf ws.toArray v) :: own) ⟨⟨ws, v, rfl, hstep2.symm⟩, rfl, rfl, rfl⟩ rfl (by intro p hp; exact mem_app_of own2 hp) (fun p hp => .tail _ (List.mem_append_right _ hp))
      · rename Fr _ _ _ _ => F3
        rename News _ _ _ _ => N3
        rename (_ : Int) ≠ 0 => hz
        rw [Int.toNat_natCast] at hz
        rw [if_neg (by unfold edgeIs; simp [hz]), ← hws] at hstep2
        exact InvEndN.intro F3 N3 (nx := (_, W.listOf ws.toArray v) :: own) ⟨⟨ws, v, rfl, hstep2.symm⟩, rfl, rfl, rfl⟩ rfl (by intro p hp; exact mem_app_of own2 hp) (fun p hp => .tail _ (List.mem_append_right _ hp))
    · clear F2 N2
      rintro m₁ nx h tk ⟨⟨ws, v, rfl, hws⟩, hm1, hm2, hm3⟩ F1 N1
      walk_at "mine steps"
      exact InvEndN.intro F1 N1 ⟨⟨_, _, rfl, hws.trans hstep.symm⟩, hm1, hm2⟩ rfl (by intro p hp; cases hp with | head => exact .head _ | tail _ h => cases h) (fun p hp => .tail _ hp)
  · rintro m₁ nx h tk ⟨⟨ws, v, rfl, hws⟩, hm1, hm2⟩ F1 N1
    rw [fix2 hm1 hm2] at F1
    walk_at "mine steps"
    rename Fr _ _ _ _ => F2
    rename News _ _ _ _ => N2
    exact hQ _ _ _ _ _ (fun b o e => F2.keep b o e) (N2 _ (.head _)).1 (hws.trans (edgesTo_all ns)) (N2 _ (.head _)).2.2
end Mine
end
section
open PySem PySem.W PyProof.Rows PySem.Calls
set_option maxRecDepth 100000
namespace Mine
local macro_rules | `(tactic| walk_at "mine enter") => `(tactic| (refine' call_raw ?k1 ?k2 ?k3 ?k4 ?k5 ?kA ?kF ?kK ?k6 ?k7 ?k8 ?k9 ?kB ?_ ?c2 ?c3 ?c4 ?c5; (case kA => exact rfl); (case kF => exact rfl); (case kK => assumption); (case k1 => k_asm); (case k2 => k_asm); (case k3 => k_asm); (case k4 => k_asm); (case k5 => k_asm); (case k6 => k_is); (case k7 => k_is); (case k8 => ktr_room); (case k9 => exact BindsTo.of_eq rfl); (case c5 => decide); (case kB => exact locs rfl); (case c2 => exact rfl); (case c3 => exact rfl); (case c4 => exact rfl); k_whole; intro L' h' tk' FG' F' N' B' X' T' st' lt'; (try k_lt lt'); (try dsimp only); (try k_lift B'); (try k_fold)))
local macro_rules | `(tactic| walk_at "mine steps") => `(tactic| repeat' (first | (k_unfold; (try dsimp only)) | ((fail_if_success (with_reducible show wpAny _ _ (pyIter (Value.ref _)) _ _ _)); (fail_if_success (with_reducible show InvEndN _ _ _ _ _ _ _)); (fail_if_success (with_reducible show UnrEnd _ _ _ _ _ _ _)); (fail_if_success (with_reducible show _ ∧ Keeps _ _)); (fail_if_success (with_reducible show ∃ _, _)); (fail_if_success (with_reducible show wpAny _ _ (exec (Stmt.Assign _ (PySem.Expr.ListComp _ _ _ _) _) _) _ _ _)); (fail_if_success (with_reducible show wpAny _ _ (execs (Stmt.Assign [PySem.Expr.Tuple _ _ _] (PySem.Expr.Tuple _ _ _) _ :: _) _) _ _ _)); (fail_if_success (with_reducible show wpAny _ _ (subscriptTail _ (PySem.Expr.Slice _ _ _ _) _ _) _ _ _)); (fail_if_success (with_reducible show wpAny _ _ (binaryOp Operator.Add (Value.ref _) (Value.ref _)) _ _ _)); (fail_if_success (with_reducible show wpAny _ _ (PySem.call (Value.ref _) _ _) _ _ _)); (fail_if_success (with_reducible show wpAny _ _ (eval (Expr.ListComp _ _ _ _) _) _ _ _)); first | walk1 | (dsimp only; walk1)) | fail "no step"))
local macro_rules | `(tactic| walk_at "execs cons") => `(tactic| ((with_reducible refine wpAny_execs_cons ?_); try dsimp only))
local macro_rules | `(tactic| walk_at "execs nil") => `(tactic| (with_reducible refine wpAny_execs_nil ?_))
local macro_rules | `(tactic| k_all) => `(tactic| assumption)
local macro_rules | `(tactic| walk_at "mine enterC") => `(tactic| (refine' call_rawC ?k1 ?k2 ?k3 ?k4 ?k5 ?kA ?kF ?kK ?k6 ?k7 ?k8 ?k9 ?kB ?kD ?_ ?c2 ?c3 ?c4; (case kA => exact rfl); (case kF => exact rfl); (case kK => assumption); (case k1 => k_asm); (case k2 => k_asm); (case k3 => k_asm); (case k4 => k_asm); (case k5 => k_asm); (case k6 => k_is); (case k7 => k_is); (case k8 => ktr_room); (case k9 => exact BindsTo.of_eq rfl); (case kB => exact rfl); (case kD => decide +kernel); (case c2 => exact rfl); (case c3 => exact rfl); (case c4 => exact rfl); k_whole; intro L' h' tk' cells' FG' F' N' Y' B' X' T' st' lt'; (try k_lt lt'); k_cells Y'; (try simp only [List.cons_append, List.nil_append] at N'); (try dsimp only); (try k_lift B'); (try k_fold)))
local macro_rules | `(tactic| walk_at "mine stepsD") => `(tactic| repeat' (first | (k_unfold; (try dsimp only)) | ((fail_if_success (with_reducible show wpAny _ _ (pyIter (Value.ref _)) _ _ _)); (fail_if_success (with_reducible show InvEndN _ _ _ _ _ _ _)); (fail_if_success (with_reducible show UnrEnd _ _ _ _ _ _ _)); (fail_if_success (with_reducible show _ ∧ Keeps _ _)); (fail_if_success (with_reducible show ∃ _, _)); (fail_if_success (with_reducible show wpAny _ _ (exec (Stmt.Assign _ (PySem.Expr.ListComp _ _ _ _) _) _) _ _ _)); (fail_if_success (with_reducible show wpAny _ _ (execs (Stmt.Assign [PySem.Expr.Tuple _ _ _] (PySem.Expr.Tuple _ _ _) _ :: _) _) _ _ _)); (fail_if_success (with_reducible show wpAny _ _ (subscriptTail _ (PySem.Expr.Slice _ _ _ _) _ _) _ _ _)); (fail_if_success (with_reducible show wpAny _ _ (binaryOp Operator.Add (Value.ref _) (Value.ref _)) _ _ _)); (fail_if_success (with_reducible show wpAny _ _ (PySem.call (Value.ref _) _ _) _ _ _)); (fail_if_success (with_reducible show wpAny _ _ (eval (Expr.ListComp _ _ _ _) _) _ _ _)); (try dsimp only); walk1) | fail "no step"))
local macro_rules | `(tactic| walk_at "mine enterN") => `(tactic| (refine' call_rawN ?k1 ?k2 ?k3 ?k4 ?k5 ?kA ?kF ?kK ?k6 ?k7 ?k8 ?k9 ?kB ?_ ?c2 ?c3 ?c4 ?c5; (case kA => exact rfl); (case kF => exact rfl); (case kK => assumption); (case k1 => k_asm); (case k2 => k_asm); (case k3 => k_asm); (case k4 => k_asm); (case k5 => k_asm); (case k6 => k_mem); (case k7 => exact codeRec_news (by k_asm) (by k_mem) (by assumption) (by assumption)); (case k8 => ktr_room); (case k9 => exact BindsTo.of_eq rfl); (case c5 => decide); (case kB => exact locs rfl); (case c2 => exact rfl); (case c3 => exact rfl); (case c4 => exact rfl); k_whole; intro L' h' tk' FG' F' N' B' X' T' st' lt'; (try k_lt lt'); (try dsimp only); (try k_lift B'); (try k_fold)))
local macro_rules | `(tactic| walk_at "subscriptTail Name Name ref int") => `(tactic| (k_here; (with_unfolding_all refine' item_ints ?k1 ?k2 ?k3 ?k4 ?k5 ?_ ?k6; (case k1 => first | exact is_list_of (by with_reducible assumption) (by with_reducible assumption) | exact isList_of (by with_reducible assumption) (by k_mem)); (case k2 => with_reducible assumption); (case k3 => omega); (case k4 => omega); (case k5 => omega); (case k6 => with_unfolding_all rfl); k_whole); intro tI))
local macro_rules | `(tactic| walk_at "call builtin:len") => `(tactic| (k_here; (with_reducible show wpAny _ _ (PySem.call (Value.builtin _) [Value.ref _]) _ _ _); k_dflt (refine' len_known ?k1 ?k2 ?k3 ?k4 ?_; (case k1 => k_asm); (case k2 => k_mem); (case k3 => first | with_reducible assumption | exact IntsAre.length (by with_reducible assumption)); (case k4 => omega); k_whole)))
local macro_rules | `(tactic| walk_at "exec For Name Call cons nil") => `(tactic| (k_here; (rename Fr _ _ _ _ => lF'); (with_unfolding_all refine' For_invVF (hE := ?kE) lF' ?k1 ?k2 ?_; (case kE => first | with_reducible assumption | passes_own); (case k1 => exact rfl); (case k2 => exact rfl); k_whole)))
local macro_rules | `(tactic| walk_at "exec For Name List cons nil") => `(tactic| (k_here; (rename Fr _ _ _ _ => lF'); (with_unfolding_all refine' For_invVF (hE := ?kE) lF' ?k1 ?k2 ?_; (case kE => first | with_reducible assumption | passes_own); (case k1 => exact rfl); (case k2 => exact rfl); k_whole)))
noncomputable def outP (ns : List Int) (a k : Int) : Bool := !(ns.any (· == Builtin.bitXor a (2 ^ k.toNat)))
noncomputable def outs (ns : List Int) : List Int := flat2 (rangeKs 0 3) (outP ns) (fun _ _ => 1) ns
set_option maxHeartbeats 8000000 in
theorem out_spec (w : World) {p : Program} {loose : List Str} {mean : ExcName → Option Value} {mg mb : Str → Option Value}
  {dp un : Nat} {gd : Option (List Code)} {cn : Str} {cs : Scope} {a : Addr} {ccd : Value} {cl : List (Str × Addr)} {outer : List Env} {A₀ : Around} {base h₀ : Heap} {L : Addr} {m : Str → Option Value} {s : Shared} {Q E : Value → Shared → Prop}
  (B : Below A₀ base outer h₀) (F : Fr h₀ L s.heap m) (X : (hd.heap_39 w.params).In h₀) (T : Top p loose mean mg mb h₀) (hke : cs.kind = .function)
  (hd : dp + 1 < recursionLimit) (hu : un + 8 < cLine)
  {l : Addr} {vs : List Value} {ns : List Int}
  (hl : s.heap.IsList l vs.toArray) (hi : IntsAre vs ns) (hn : ns.length ≤ 8) (hr : ∀ x ∈ ns, 0 ≤ x ∧ x < 8)
  (hQ : ∀ h' tk t, s.heap.StaysIn h' → Q (.int (outs ns).length t) { s with heap := h', toks := tk }) :
  wpAny (model PySem.Challenge.rw_hn0001_01.row.prog w) (ktrTop dp un gd cn cs L a ccd cl outer) (call (.ref 61) [.ref l]) Q E s := by
  have N : News h₀ L s.heap [] := News.nil
  revert X
  k_fill
  intro X
  refine wpAny_call ?_
  w_top off
  k_dflt (walk_at "mine enterC")
  have hl' : (gnd s.heap []).IsList l vs.toArray := hl
  walk_at "mine steps"
  rename Fr _ _ _ _ => F1
  rename News _ _ _ _ => N1
  k_dflt (refine comp2_eval F1 (outP ns) (fun _ _ => 1) (by rfl) (by with_unfolding_all rfl) (by decide) (by rfl) (by decide) (by rfl) (by rfl) (by decide) ?_ (by intro _; rfl) (by intro _ _; rfl) (by intro _ _; rfl) (by intro _ _; rfl))
  walk1
  have hls : ∀ {h : Heap}, (∀ b o, (gnd s.heap []).get? b = some o → h.get? b = some o) → h.IsList l vs.toArray := fun k => hl'.at fun o e => k _ o e
  refine ⟨ns, rangeKs 0 3, _, .list rfl (hls F1.keep) (by assumption) (by omega), F1, N1, ?_, ⟨?_, ?_, ?_⟩, ?_⟩
  · simp only [rangeKs_length]; omega
  · intro C oC a t m₂ s₃ E' ha nC hm F3 N3 up
    walk_at "mine steps"
    exact ⟨⟨_, _, _, _, _, _, 3, rfl, by assumption, rfl, rfl, rfl⟩, ⟨_, _, rfl, by assumption⟩⟩
  · intro C oC a t k u m₂ s₃ E' ha hk nC hm hm2 F3 N3 up
    refine wpAny_tests_one ?_
    have hk' : 0 ≤ k ∧ k < 3 := by have := mem_rangeKs hk; omega
    obtain ⟨hk1, hk2⟩ := hk'
    have ha' := hr a ha
    obtain ⟨ha1, ha2⟩ := ha'
    clear hk
    walk_at "mine steps"
    all_goals exact ⟨rfl, ⟨_, _, rfl, fun _ _ e => e⟩⟩
  · intro C oC a t k u m₂ s₃ E' ha hk hp nC hm hm2 F3 N3 up
    walk_at "mine steps"
    exact ⟨⟨_, rfl⟩, ⟨_, _, rfl, fun _ _ e => e⟩⟩
  · intro D h' tk out
    obtain ⟨F2, ⟨ys, v, N2, hys⟩, hne, up, hD, hDL⟩ := out
    have e := hys.length
    have hle : (outs ns).length ≤ ns.length * 3 := flat2_le (rangeKs 0 3) (outP ns) (fun _ _ => 1) ns
    have e : ys.length = (outs ns).length := e
    walk_at "mine steps"
    exact hQ _ _ _ fun b o q => up b o (F1.keep b o q)
end Mine
end
section
open PySem PySem.W PyProof.Rows PySem.Calls
set_option maxRecDepth 100000
namespace Mine
local macro_rules | `(tactic| walk_at "mine enter") => `(tactic| (refine' call_raw ?k1 ?k2 ?k3 ?k4 ?k5 ?kA ?kF ?kK ?k6 ?k7 ?k8 ?k9 ?kB ?_ ?c2 ?c3 ?c4 ?c5; (case kA => exact rfl); (case kF => exact rfl); (case kK => assumption); (case k1 => k_asm); (case k2 => k_asm); (case k3 => k_asm); (case k4 => k_asm); (case k5 => k_asm); (case k6 => k_is); (case k7 => k_is); (case k8 => ktr_room); (case k9 => exact BindsTo.of_eq rfl); (case c5 => decide); (case kB => exact locs rfl); (case c2 => exact rfl); (case c3 => exact rfl); (case c4 => exact rfl); k_whole; intro L' h' tk' FG' F' N' B' X' T' st' lt'; (try k_lt lt'); (try dsimp only); (try k_lift B'); (try k_fold)))
local macro_rules | `(tactic| walk_at "mine steps") => `(tactic| repeat' (first | (k_unfold; (try dsimp only)) | ((fail_if_success (with_reducible show wpAny _ _ (pyIter (Value.ref _)) _ _ _)); (fail_if_success (with_reducible show InvEndN _ _ _ _ _ _ _)); (fail_if_success (with_reducible show UnrEnd _ _ _ _ _ _ _)); (fail_if_success (with_reducible show _ ∧ Keeps _ _)); (fail_if_success (with_reducible show ∃ _, _)); (fail_if_success (with_reducible show wpAny _ _ (exec (Stmt.Assign _ (PySem.Expr.ListComp _ _ _ _) _) _) _ _ _)); (fail_if_success (with_reducible show wpAny _ _ (execs (Stmt.Assign [PySem.Expr.Tuple _ _ _] (PySem.Expr.Tuple _ _ _) _ :: _) _) _ _ _)); (fail_if_success (with_reducible show wpAny _ _ (subscriptTail _ (PySem.Expr.Slice _ _ _ _) _ _) _ _ _)); (fail_if_success (with_reducible show wpAny _ _ (binaryOp Operator.Add (Value.ref _) (Value.ref _)) _ _ _)); (fail_if_success (with_reducible show wpAny _ _ (PySem.call (Value.ref _) _ _) _ _ _)); (fail_if_success (with_reducible show wpAny _ _ (eval (Expr.ListComp _ _ _ _) _) _ _ _)); first | walk1 | (dsimp only; walk1)) | fail "no step"))
local macro_rules | `(tactic| walk_at "execs cons") => `(tactic| ((with_reducible refine wpAny_execs_cons ?_); try dsimp only))
local macro_rules | `(tactic| walk_at "execs nil") => `(tactic| (with_reducible refine wpAny_execs_nil ?_))
local macro_rules | `(tactic| k_all) => `(tactic| assumption)
local macro_rules | `(tactic| walk_at "mine enterC") => `(tactic| (refine' call_rawC ?k1 ?k2 ?k3 ?k4 ?k5 ?kA ?kF ?kK ?k6 ?k7 ?k8 ?k9 ?kB ?kD ?_ ?c2 ?c3 ?c4; (case kA => exact rfl); (case kF => exact rfl); (case kK => assumption); (case k1 => k_asm); (case k2 => k_asm); (case k3 => k_asm); (case k4 => k_asm); (case k5 => k_asm); (case k6 => k_is); (case k7 => k_is); (case k8 => ktr_room); (case k9 => exact BindsTo.of_eq rfl); (case kB => exact rfl); (case kD => decide +kernel); (case c2 => exact rfl); (case c3 => exact rfl); (case c4 => exact rfl); k_whole; intro L' h' tk' cells' FG' F' N' Y' B' X' T' st' lt'; (try k_lt lt'); k_cells Y'; (try simp only [List.cons_append, List.nil_append] at N'); (try dsimp only); (try k_lift B'); (try k_fold)))
local macro_rules | `(tactic| walk_at "mine stepsD") => `(tactic| repeat' (first | (k_unfold; (try dsimp only)) | ((fail_if_success (with_reducible show wpAny _ _ (pyIter (Value.ref _)) _ _ _)); (fail_if_success (with_reducible show InvEndN _ _ _ _ _ _ _)); (fail_if_success (with_reducible show UnrEnd _ _ _ _ _ _ _)); (fail_if_success (with_reducible show _ ∧ Keeps _ _)); (fail_if_success (with_reducible show ∃ _, _)); (fail_if_success (with_reducible show wpAny _ _ (exec (Stmt.Assign _ (PySem.Expr.ListComp _ _ _ _) _) _) _ _ _)); (fail_if_success (with_reducible show wpAny _ _ (execs (Stmt.Assign [PySem.Expr.Tuple _ _ _] (PySem.Expr.Tuple _ _ _) _ :: _) _) _ _ _)); (fail_if_success (with_reducible show wpAny _ _ (subscriptTail _ (PySem.Expr.Slice _ _ _ _) _ _) _ _ _)); (fail_if_success (with_reducible show wpAny _ _ (binaryOp Operator.Add (Value.ref _) (Value.ref _)) _ _ _)); (fail_if_success (with_reducible show wpAny _ _ (PySem.call (Value.ref _) _ _) _ _ _)); (fail_if_success (with_reducible show wpAny _ _ (eval (Expr.ListComp _ _ _ _) _) _ _ _)); (try dsimp only); walk1) | fail "no step"))
local macro_rules | `(tactic| walk_at "mine enterN") => `(tactic| (refine' call_rawN ?k1 ?k2 ?k3 ?k4 ?k5 ?kA ?kF ?kK ?k6 ?k7 ?k8 ?k9 ?kB ?_ ?c2 ?c3 ?c4 ?c5; (case kA => exact rfl); (case kF => exact rfl); (case kK => assumption); (case k1 => k_asm); (case k2 => k_asm); (case k3 => k_asm); (case k4 => k_asm); (case k5 => k_asm); (case k6 => k_mem); (case k7 => exact codeRec_news (by k_asm) (by k_mem) (by assumption) (by assumption)); (case k8 => ktr_room); (case k9 => exact BindsTo.of_eq rfl); (case c5 => decide); (case kB => exact locs rfl); (case c2 => exact rfl); (case c3 => exact rfl); (case c4 => exact rfl); k_whole; intro L' h' tk' FG' F' N' B' X' T' st' lt'; (try k_lt lt'); (try dsimp only); (try k_lift B'); (try k_fold)))
local macro_rules | `(tactic| walk_at "subscriptTail Name Name ref int") => `(tactic| (k_here; (with_unfolding_all refine' item_ints ?k1 ?k2 ?k3 ?k4 ?k5 ?_ ?k6; (case k1 => first | exact is_list_of (by with_reducible assumption) (by with_reducible assumption) | exact isList_of (by with_reducible assumption) (by k_mem)); (case k2 => with_reducible assumption); (case k3 => omega); (case k4 => omega); (case k5 => omega); (case k6 => with_unfolding_all rfl); k_whole); intro tI))
local macro_rules | `(tactic| walk_at "call builtin:len") => `(tactic| (k_here; (with_reducible show wpAny _ _ (PySem.call (Value.builtin _) [Value.ref _]) _ _ _); k_dflt (refine' len_known ?k1 ?k2 ?k3 ?k4 ?_; (case k1 => k_asm); (case k2 => k_mem); (case k3 => first | with_reducible assumption | exact IntsAre.length (by with_reducible assumption)); (case k4 => omega); k_whole)))
local macro_rules | `(tactic| walk_at "exec For Name Call cons nil") => `(tactic| (k_here; (rename Fr _ _ _ _ => lF'); (with_unfolding_all refine' For_invVF (hE := ?kE) lF' ?k1 ?k2 ?_; (case kE => first | with_reducible assumption | passes_own); (case k1 => exact rfl); (case k2 => exact rfl); k_whole)))
local macro_rules | `(tactic| walk_at "exec For Name List cons nil") => `(tactic| (k_here; (rename Fr _ _ _ _ => lF'); (with_unfolding_all refine' For_invVF (hE := ?kE) lF' ?k1 ?k2 ?_; (case kE => first | with_reducible assumption | passes_own); (case k1 => exact rfl); (case k2 => exact rfl); k_whole)))
noncomputable def pushP (ns : List Int) (k a : Int) : Bool := decide ((a.fdiv (2 ^ k.toNat)).fmod 2 = 1) && !(ns.any (· == a - 2 ^ k.toNat))
noncomputable def push1 (ns : List Int) (k a : Int) : Int := if pushP ns k a then a - 2 ^ k.toNat else a
noncomputable def pushed (ns : List Int) (k : Int) : List Int := ns.map (push1 ns k)
set_option maxHeartbeats 8000000 in
theorem pushed_spec (w : World) {p : Program} {loose : List Str} {mean : ExcName → Option Value} {mg mb : Str → Option Value}
  {dp un : Nat} {gd : Option (List Code)} {cn : Str} {cs : Scope} {a : Addr} {ccd : Value} {cl : List (Str × Addr)} {outer : List Env} {A₀ : Around} {base h₀ : Heap} {L : Addr} {m : Str → Option Value} {s : Shared} {Q E : Value → Shared → Prop}
  (B : Below A₀ base outer h₀) (F : Fr h₀ L s.heap m) (X : (hd.heap_39 w.params).In h₀) (T : Top p loose mean mg mb h₀) (hke : cs.kind = .function)
  (hd : dp + 1 < recursionLimit) (hu : un + 8 < cLine)
  {l : Addr} {vs : List Value} {ns : List Int} {k : Int} {tK : Tok}
  (hl : s.heap.IsList l vs.toArray) (hi : IntsAre vs ns) (hn : ns.length ≤ 8) (hr : ∀ x ∈ ns, 0 ≤ x ∧ x < 8) (hk1 : 0 ≤ k) (hk2 : k < 3)
  (hQ : ∀ h' tk r ws v, s.heap.StaysIn h' → h'.get? r = some (W.listOf (List.toArray ws) v) → IntsAre ws (pushed ns k) → s.heap.get? r = none → Q (.ref r) { s with heap := h', toks := tk }) :
  wpAny (model PySem.Challenge.rw_hn0001_01.row.prog w) (ktrTop dp un gd cn cs L a ccd cl outer) (call (.ref 66) [.ref l, .int k tK]) Q E s := by
  have N : News h₀ L s.heap [] := News.nil
  revert X
  k_fill
  intro X
  refine wpAny_call ?_
  w_top off
  k_dflt (walk_at "mine enterC")
  have hl' : (gnd s.heap []).IsList l vs.toArray := hl
  walk_at "mine steps"
  rename Fr _ _ _ _ => F1
  rename News _ _ _ _ => N1
  k_dflt (refine comp_eval F1 (fun _ => true) (push1 ns k) (by rfl) (by with_unfolding_all rfl) (by decide) (by rfl) (by decide) (by rfl) ?_)
  walk1
  have hls : ∀ {h : Heap}, (∀ b o, (gnd s.heap []).get? b = some o → h.get? b = some o) → h.IsList l vs.toArray := fun k => hl'.at fun o e => k _ o e
  refine ⟨ns, _, .list rfl (hls F1.keep) (by assumption) (by omega), F1, N1, ⟨?_, ?_⟩, ?_⟩
  · intro C oC a t m₂ s₃ E' ha nC hm F3 N3 up
    exact wpAny_tests_nil ⟨rfl, ⟨_, _, rfl, fun _ _ e => e⟩⟩
  · intro C oC a t m₂ s₃ E' ha hp nC hm F3 N3 up
    have ha' := hr a ha
    obtain ⟨ha1, ha2⟩ := ha'
    walk_at "mine stepsD"
    · rename (_ : Bool) = true => hin
      rename (_ : Int) = 1 => hz
      exact ⟨⟨t, by unfold push1; rw [if_neg (by unfold pushP; rw [hin]; simp)]⟩, ⟨_, _, rfl, fun _ _ e => e⟩⟩
    · rename (_ : Bool) = false => hin
      rename (_ : Int) = 1 => hz
      exact ⟨⟨_, by unfold push1; rw [if_pos (by unfold pushP; rw [hin, hz]; rfl)]⟩, ⟨_, _, rfl, fun _ _ e => e⟩⟩
    · rename (_ : Int) ≠ 1 => hz
      exact ⟨⟨t, by unfold push1; rw [if_neg (by unfold pushP; simp [hz])]⟩, ⟨_, _, rfl, fun _ _ e => e⟩⟩
  · intro D h' tk out
    obtain ⟨F2, ⟨ys, v, N2, hys⟩, hne, up, hD, hDL⟩ := out
    rw [List.filter_eq_self.mpr (fun _ _ => rfl)] at hys
    walk_at "mine steps"
    exact hQ _ _ _ _ _ (fun b o q => up b o (F1.keep b o q)) (N2 _ (.head _)).1 hys (N2 _ (.head _)).2.2
end Mine
end
section
open PySem PySem.W PyProof.Rows PySem.Calls
set_option maxRecDepth 100000
namespace Mine
local macro_rules | `(tactic| walk_at "mine enter") => `(tactic| (refine' call_raw ?k1 ?k2 ?k3 ?k4 ?k5 ?kA ?kF ?kK ?k6 ?k7 ?k8 ?k9 ?kB ?_ ?c2 ?c3 ?c4 ?c5; (case kA => exact rfl); (case kF => exact rfl); (case kK => assumption); (case k1 => k_asm); (case k2 => k_asm); (case k3 => k_asm); (case k4 => k_asm); (case k5 => k_asm); (case k6 => k_is); (case k7 => k_is); (case k8 => ktr_room); (case k9 => exact BindsTo.of_eq rfl); (case c5 => decide); (case kB => exact locs rfl); (case c2 => exact rfl); (case c3 => exact rfl); (case c4 => exact rfl); k_whole; intro L' h' tk' FG' F' N' B' X' T' st' lt'; (try k_lt lt'); (try dsimp only); (try k_lift B'); (try k_fold)))
local macro_rules | `(tactic| walk_at "mine steps") => `(tactic| repeat' (first | (k_unfold; (try dsimp only)) | ((fail_if_success (with_reducible show wpAny _ _ (pyIter (Value.ref _)) _ _ _)); (fail_if_success (with_reducible show InvEndN _ _ _ _ _ _ _)); (fail_if_success (with_reducible show UnrEnd _ _ _ _ _ _ _)); (fail_if_success (with_reducible show _ ∧ Keeps _ _)); (fail_if_success (with_reducible show ∃ _, _)); (fail_if_success (with_reducible show wpAny _ _ (exec (Stmt.Assign _ (PySem.Expr.ListComp _ _ _ _) _) _) _ _ _)); (fail_if_success (with_reducible show wpAny _ _ (execs (Stmt.Assign [PySem.Expr.Tuple _ _ _] (PySem.Expr.Tuple _ _ _) _ :: _) _) _ _ _)); (fail_if_success (with_reducible show wpAny _ _ (subscriptTail _ (PySem.Expr.Slice _ _ _ _) _ _) _ _ _)); (fail_if_success (with_reducible show wpAny _ _ (binaryOp Operator.Add (Value.ref _) (Value.ref _)) _ _ _)); (fail_if_success (with_reducible show wpAny _ _ (PySem.call (Value.ref _) _ _) _ _ _)); (fail_if_success (with_reducible show wpAny _ _ (eval (Expr.ListComp _ _ _ _) _) _ _ _)); first | walk1 | (dsimp only; walk1)) | fail "no step"))
local macro_rules | `(tactic| walk_at "execs cons") => `(tactic| ((with_reducible refine wpAny_execs_cons ?_); try dsimp only))
local macro_rules | `(tactic| walk_at "execs nil") => `(tactic| (with_reducible refine wpAny_execs_nil ?_))
local macro_rules | `(tactic| k_all) => `(tactic| assumption)
local macro_rules | `(tactic| walk_at "mine enterC") => `(tactic| (refine' call_rawC ?k1 ?k2 ?k3 ?k4 ?k5 ?kA ?kF ?kK ?k6 ?k7 ?k8 ?k9 ?kB ?kD ?_ ?c2 ?c3 ?c4; (case kA => exact rfl); (case kF => exact rfl); (case kK => assumption); (case k1 => k_asm); (case k2 => k_asm); (case k3 => k_asm); (case k4 => k_asm); (case k5 => k_asm); (case k6 => k_is); (case k7 => k_is); (case k8 => ktr_room); (case k9 => exact BindsTo.of_eq rfl); (case kB => exact rfl); (case kD => decide +kernel); (case c2 => exact rfl); (case c3 => exact rfl); (case c4 => exact rfl); k_whole; intro L' h' tk' cells' FG' F' N' Y' B' X' T' st' lt'; (try k_lt lt'); k_cells Y'; (try simp only [List.cons_append, List.nil_append] at N'); (try dsimp only); (try k_lift B'); (try k_fold)))
local macro_rules | `(tactic| walk_at "mine stepsD") => `(tactic| repeat' (first | (k_unfold; (try dsimp only)) | ((fail_if_success (with_reducible show wpAny _ _ (pyIter (Value.ref _)) _ _ _)); (fail_if_success (with_reducible show InvEndN _ _ _ _ _ _ _)); (fail_if_success (with_reducible show UnrEnd _ _ _ _ _ _ _)); (fail_if_success (with_reducible show _ ∧ Keeps _ _)); (fail_if_success (with_reducible show ∃ _, _)); (fail_if_success (with_reducible show wpAny _ _ (exec (Stmt.Assign _ (PySem.Expr.ListComp _ _ _ _) _) _) _ _ _)); (fail_if_success (with_reducible show wpAny _ _ (execs (Stmt.Assign [PySem.Expr.Tuple _ _ _] (PySem.Expr.Tuple _ _ _) _ :: _) _) _ _ _)); (fail_if_success (with_reducible show wpAny _ _ (subscriptTail _ (PySem.Expr.Slice _ _ _ _) _ _) _ _ _)); (fail_if_success (with_reducible show wpAny _ _ (binaryOp Operator.Add (Value.ref _) (Value.ref _)) _ _ _)); (fail_if_success (with_reducible show wpAny _ _ (PySem.call (Value.ref _) _ _) _ _ _)); (fail_if_success (with_reducible show wpAny _ _ (eval (Expr.ListComp _ _ _ _) _) _ _ _)); (try dsimp only); walk1) | fail "no step"))
local macro_rules | `(tactic| walk_at "mine enterN") => `(tactic| (refine' call_rawN ?k1 ?k2 ?k3 ?k4 ?k5 ?kA ?kF ?kK ?k6 ?k7 ?k8 ?k9 ?kB ?_ ?c2 ?c3 ?c4 ?c5; (case kA => exact rfl); (case kF => exact rfl); (case kK => assumption); (case k1 => k_asm); (case k2 => k_asm); (case k3 => k_asm); (case k4 => k_asm); (case k5 => k_asm); (case k6 => k_mem); (case k7 => exact codeRec_news (by k_asm) (by k_mem) (by assumption) (by assumption)); (case k8 => ktr_room); (case k9 => exact BindsTo.of_eq rfl); (case c5 => decide); (case kB => exact locs rfl); (case c2 => exact rfl); (case c3 => exact rfl); (case c4 => exact rfl); k_whole; intro L' h' tk' FG' F' N' B' X' T' st' lt'; (try k_lt lt'); (try dsimp only); (try k_lift B'); (try k_fold)))
local macro_rules | `(tactic| walk_at "subscriptTail Name Name ref int") => `(tactic| (k_here; (with_unfolding_all refine' item_ints ?k1 ?k2 ?k3 ?k4 ?k5 ?_ ?k6; (case k1 => first | exact is_list_of (by with_reducible assumption) (by with_reducible assumption) | exact isList_of (by with_reducible assumption) (by k_mem)); (case k2 => with_reducible assumption); (case k3 => omega); (case k4 => omega); (case k5 => omega); (case k6 => with_unfolding_all rfl); k_whole); intro tI))
local macro_rules | `(tactic| walk_at "call builtin:len") => `(tactic| (k_here; (with_reducible show wpAny _ _ (PySem.call (Value.builtin _) [Value.ref _]) _ _ _); k_dflt (refine' len_known ?k1 ?k2 ?k3 ?k4 ?_; (case k1 => k_asm); (case k2 => k_mem); (case k3 => first | with_reducible assumption | exact IntsAre.length (by with_reducible assumption)); (case k4 => omega); k_whole)))
local macro_rules | `(tactic| walk_at "exec For Name Call cons nil") => `(tactic| (k_here; (rename Fr _ _ _ _ => lF'); (with_unfolding_all refine' For_invVF (hE := ?kE) lF' ?k1 ?k2 ?_; (case kE => first | with_reducible assumption | passes_own); (case k1 => exact rfl); (case k2 => exact rfl); k_whole)))
local macro_rules | `(tactic| walk_at "exec For Name List cons nil") => `(tactic| (k_here; (rename Fr _ _ _ _ => lF'); (with_unfolding_all refine' For_invVF (hE := ?kE) lF' ?k1 ?k2 ?_; (case kE => first | with_reducible assumption | passes_own); (case k1 => exact rfl); (case k2 => exact rfl); k_whole)))
noncomputable def d2iInner : Stmt := match PySem.Challenge.pw_hn0001_01.main.body with
  | _ :: _ :: .FunctionDef _ _ (i :: _) _ _ _ _ _ _ _ :: _ => i
  | s :: _ => s
  | [] => .Pass ⟨0, 0, 0, 0⟩
noncomputable def val (ns : List Int) (lo : Nat) : Nat → Int
  | 0 => 0
  | n + 1 => val ns lo n + ns.getD (lo + n) 0 * 2 ^ n
theorem bit_getD {ns : List Int} (h : ∀ x ∈ ns, 0 ≤ x ∧ x ≤ 1) (i : Nat) : 0 ≤ ns.getD i 0 ∧ ns.getD i 0 ≤ 1 := by
  by_cases q : i < ns.length
  · exact h _ (by simp [List.getD, q])
  · simp [List.getD, List.getElem?_eq_none (Nat.not_lt.mp q)]
theorem pow_le8 {k : Nat} (h : k ≤ 8) : (2 : Int) ^ k ≤ 2 ^ 8 := by
  have : k = 0 ∨ k = 1 ∨ k = 2 ∨ k = 3 ∨ k = 4 ∨ k = 5 ∨ k = 6 ∨ k = 7 ∨ k = 8 := by omega
  rcases this with rfl | rfl | rfl | rfl | rfl | rfl | rfl | rfl | rfl <;> decide
theorem val_one (ns : List Int) (lo : Nat) : val ns lo 1 = ns.getD lo 0 := by simp [val]
theorem val_bound {ns : List Int} (h : ∀ x ∈ ns, 0 ≤ x ∧ x ≤ 1) (lo : Nat) : ∀ n, 0 ≤ val ns lo n ∧ val ns lo n < 2 ^ n
  | 0 => by simp [val]
  | n + 1 => by
    have h1 := val_bound h lo n
    have h2 := bit_getD h (lo + n)
    unfold val
    generalize ns.getD (lo + n) 0 = b at h2
    generalize val ns lo n = v at h1
    rw [Int.pow_succ]
    generalize (2 : Int) ^ n = w at h1
    have hb : b = 0 ∨ b = 1 := by omega
    rcases hb with rfl | rfl <;> omega
theorem val_add (ns : List Int) (lo m : Nat) : ∀ n, val ns lo (m + n) = val ns lo m + val ns (lo + m) n * 2 ^ m
  | 0 => by simp [val]
  | n + 1 => by
    have h1 := val_add ns lo m n
    show val ns lo (m + n) + ns.getD (lo + (m + n)) 0 * 2 ^ (m + n) = val ns lo m + (val ns (lo + m) n + ns.getD (lo + m + n) 0 * 2 ^ n) * 2 ^ m
    rw [h1, Nat.add_assoc lo m n, Int.add_mul, Int.add_assoc, Int.mul_assoc, ← Int.pow_add, Nat.add_comm n m]
theorem mid_nat (lo hi : Nat) : ((lo : Int) + (hi : Int)).fdiv (2 ^ Int.toNat 1) = (((lo + hi) / 2 : Nat) : Int) := by
  show ((lo : Int) + (hi : Int)).fdiv 2 = _
  rw [Int.fdiv_eq_ediv_of_nonneg _ (by decide)]
  omega
set_option maxHeartbeats 8000000 in
theorem d2i_inner (w : World) {nm qual : Str} {params : Arguments} {body : List Stmt} {dl : List Expr} {rt : Option Expr} {tps : List TypeParam} {scope : Scope} {tsc : Option Scope} {bd : Str} {pos : Pos} (hI : d2iInner = .FunctionDef nm params body dl rt tps scope tsc bd pos)
  {p : Program} {loose : List Str} {mean : ExcName → Option Value} {mg mb : Str → Option Value}
  {ns : List Int} {vs : List Value} {l : Addr} {f c' cI cN cD : Addr} {oc oI oN oD : Obj} {doc ctv pm : Value} {vsC : Array Value} {tq tK : Tok}
  (hoc : oc.data = .fields vsC) (hq : vsC[1]? = some (.str qual tq)) (hoI : oI.data = .cell (some (.ref f))) (hoN : oN.data = .cell (some (.int 1 tK))) (hoD : oD.data = .cell (some (.ref l)))
  {g0 : Heap} (CH0 : CodeHd g0 27 23) (hvs : IntsAre vs ns) (hbits : ∀ x ∈ ns, 0 ≤ x ∧ x ≤ 1) (hn : ns.length ≤ 8) (hlp : l ∉ [f, c', cI, cN, cD]) :
  ∀ (d : Nat) {lo hi : Nat} {tL tR : Tok} {dp un : Nat} {gd : Option (List Code)} {cn : Str} {cs : Scope} {a : Addr} {ccd : Value} {cl : List (Str × Addr)} {outer : List Env} {A₀ : Around} {base h₀ : Heap} {L : Addr} {m : Str → Option Value} {s : Shared} {Q E : Value → Shared → Prop},
  hi = lo + d → 0 < d → hi ≤ ns.length →
  Below A₀ base outer h₀ → Fr h₀ L s.heap m → (hd.heap_39 w.params).In h₀ → Top p loose mean mg mb h₀ → cs.kind = .function → dp + d < recursionLimit → un + 8 * d < cLine →
  News h₀ L s.heap [(f, fnMade nm qual params body scope [(Str.ofString "n", cN), (Str.ofString "inner", cI), (Str.ofString "digits", cD)] doc pm c' ctv), (c', oc), (cI, oI), (cN, oN), (cD, oD)] →
  s.heap.IsList l vs.toArray →
  (∀ h' tk t, s.heap.StaysIn h' → Q (.int (val ns lo d) t) { s with heap := h', toks := tk }) →
  wpAny (model PySem.Challenge.rw_hn0001_01.row.prog w) (ktrTop dp un gd cn cs L a ccd cl outer) (call (.ref f) [.int (lo : Int) tL, .int (hi : Int) tR]) Q E s := by
  cases hI
  intro d
  induction d using Nat.strongRecOn with
  | ind d ih =>
  intro lo hi tL tR dp un gd cn cs a ccd cl outer A₀ base h₀ L m s Q E ehi hd0 hle B F X T hke hdp hun N hl hQ
  revert X
  k_fill
  intro X
  refine wpAny_call ?_
  w_top off
  k_dflt (walk_at "mine enterN")
  have hl' := gnd_list N hl hlp
  have hbv : ∀ (i : Nat), 0 ≤ ns.getD i 0 ∧ ns.getD i 0 ≤ 1 := fun i => bit_getD hbits i
  walk_at "mine stepsD"
  · rename _ = _ => heq
    have e1 : d = 1 := by omega
    subst e1
    rename Fr _ _ _ _ => F1
    rename News _ _ _ _ => N1
    have h1 := fun tk t => hQ _ tk t (stays_of N F1 fun p hp => (N1 p hp).1)
    simp only [val_one] at h1
    exact h1 _ _
  · rename ¬ _ = _ => hne
    rename Fr _ _ _ _ => F1
    rename News _ _ _ _ => N1
    rename Below _ _ _ _ => B1
    rename Frag.In _ _ => X1
    rename Top _ _ _ _ _ _ => T1
    have e2 : ((lo : Int) + (hi : Int)).fdiv (2 ^ Int.toNat 1) = (((lo + hi) / 2 : Nat) : Int) := mid_nat lo hi
    rw [e2] at F1 ⊢
    generalize hmid : (lo + hi) / 2 = mid at F1 ⊢
    refine ih (hi - mid) (by omega) (dp := dp + 1) (un := un + 3) (lo := mid) (hi := hi) (by omega) (by omega) hle B1 F1 X1 T1 (by rfl) (by omega) (by omega) N1 (is_list_of F1 hl') ?_
    intro h1 tk1 t1 st1
    have F2 := F1.keeps st1
    have N2 := keeps_news N1 st1
    clear F1 N1
    have hv1 := val_bound hbits mid (hi - mid)
    have hv2 : (2 : Int) ^ (hi - mid) ≤ 2 ^ 8 := pow_le8 (by omega)
    have hsh : ((mid : Int) - (lo : Int)) * 1 = ((mid - lo : Nat) : Int) := by omega
    rw [hsh] at F2
    walk_at "mine stepsD"
    rename Fr _ _ _ _ => F3
    rename News _ _ _ _ => N3
    refine ih (mid - lo) (by omega) (dp := dp + 1) (un := un + 3) (lo := lo) (hi := mid) (by omega) (by omega) (by omega) B1 F3 X1 T1 (by rfl) (by omega) (by omega) N3 (is_list_of F3 hl') ?_
    intro h2 tk2 t2 st2
    have F4 := F3.keeps st2
    have N4 := keeps_news N3 st2
    clear F3 N3
    have hv3 := val_bound hbits lo (mid - lo)
    walk_at "mine stepsD"
    have hv : val ns mid (hi - mid) * 2 ^ ((mid - lo : Nat) : Int).toNat + val ns lo (mid - lo) = val ns lo d := by
      have h3 := val_add ns lo (mid - lo) (hi - mid)
      rw [show lo + (mid - lo) = mid by omega, show mid - lo + (hi - mid) = d by omega] at h3
      rw [Int.toNat_natCast, h3, Int.add_comm]
    rw [hv]
    exact hQ _ _ _ (stays_of N F4 fun p hp => (N4 p hp).1)
end Mine
end
section
open PySem PySem.W PyProof.Rows PySem.Calls
set_option maxRecDepth 100000
namespace Mine
local macro_rules | `(tactic| walk_at "mine enter") => `(tactic| (refine' call_raw ?k1 ?k2 ?k3 ?k4 ?k5 ?kA ?kF ?kK ?k6 ?k7 ?k8 ?k9 ?kB ?_ ?c2 ?c3 ?c4 ?c5; (case kA => exact rfl); (case kF => exact rfl); (case kK => assumption); (case k1 => k_asm); (case k2 => k_asm); (case k3 => k_asm); (case k4 => k_asm); (case k5 => k_asm); (case k6 => k_is); (case k7 => k_is); (case k8 => ktr_room); (case k9 => exact BindsTo.of_eq rfl); (case c5 => decide); (case kB => exact locs rfl); (case c2 => exact rfl); (case c3 => exact rfl); (case c4 => exact rfl); k_whole; intro L' h' tk' FG' F' N' B' X' T' st' lt'; (try k_lt lt'); (try dsimp only); (try k_lift B'); (try k_fold)))
local macro_rules | `(tactic| walk_at "mine steps") => `(tactic| repeat' (first | (k_unfold; (try dsimp only)) | ((fail_if_success (with_reducible show wpAny _ _ (pyIter (Value.ref _)) _ _ _)); (fail_if_success (with_reducible show InvEndN _ _ _ _ _ _ _)); (fail_if_success (with_reducible show UnrEnd _ _ _ _ _ _ _)); (fail_if_success (with_reducible show _ ∧ Keeps _ _)); (fail_if_success (with_reducible show ∃ _, _)); (fail_if_success (with_reducible show wpAny _ _ (exec (Stmt.Assign _ (PySem.Expr.ListComp _ _ _ _) _) _) _ _ _)); (fail_if_success (with_reducible show wpAny _ _ (execs (Stmt.Assign [PySem.Expr.Tuple _ _ _] (PySem.Expr.Tuple _ _ _) _ :: _) _) _ _ _)); (fail_if_success (with_reducible show wpAny _ _ (subscriptTail _ (PySem.Expr.Slice _ _ _ _) _ _) _ _ _)); (fail_if_success (with_reducible show wpAny _ _ (binaryOp Operator.Add (Value.ref _) (Value.ref _)) _ _ _)); (fail_if_success (with_reducible show wpAny _ _ (PySem.call (Value.ref _) _ _) _ _ _)); (fail_if_success (with_reducible show wpAny _ _ (eval (Expr.ListComp _ _ _ _) _) _ _ _)); first | walk1 | (dsimp only; walk1)) | fail "no step"))
local macro_rules | `(tactic| walk_at "execs cons") => `(tactic| ((with_reducible refine wpAny_execs_cons ?_); try dsimp only))
local macro_rules | `(tactic| walk_at "execs nil") => `(tactic| (with_reducible refine wpAny_execs_nil ?_))
local macro_rules | `(tactic| k_all) => `(tactic| assumption)
local macro_rules | `(tactic| walk_at "mine enterC") => `(tactic| (refine' call_rawC ?k1 ?k2 ?k3 ?k4 ?k5 ?kA ?kF ?kK ?k6 ?k7 ?k8 ?k9 ?kB ?kD ?_ ?c2 ?c3 ?c4; (case kA => exact rfl); (case kF => exact rfl); (case kK => assumption); (case k1 => k_asm); (case k2 => k_asm); (case k3 => k_asm); (case k4 => k_asm); (case k5 => k_asm); (case k6 => k_is); (case k7 => k_is); (case k8 => ktr_room); (case k9 => exact BindsTo.of_eq rfl); (case kB => exact rfl); (case kD => decide +kernel); (case c2 => exact rfl); (case c3 => exact rfl); (case c4 => exact rfl); k_whole; intro L' h' tk' cells' FG' F' N' Y' B' X' T' st' lt'; (try k_lt lt'); k_cells Y'; (try simp only [List.cons_append, List.nil_append] at N'); (try dsimp only); (try k_lift B'); (try k_fold)))
local macro_rules | `(tactic| walk_at "mine stepsD") => `(tactic| repeat' (first | (k_unfold; (try dsimp only)) | ((fail_if_success (with_reducible show wpAny _ _ (pyIter (Value.ref _)) _ _ _)); (fail_if_success (with_reducible show InvEndN _ _ _ _ _ _ _)); (fail_if_success (with_reducible show UnrEnd _ _ _ _ _ _ _)); (fail_if_success (with_reducible show _ ∧ Keeps _ _)); (fail_if_success (with_reducible show ∃ _, _)); (fail_if_success (with_reducible show wpAny _ _ (exec (Stmt.Assign _ (PySem.Expr.ListComp _ _ _ _) _) _) _ _ _)); (fail_if_success (with_reducible show wpAny _ _ (execs (Stmt.Assign [PySem.Expr.Tuple _ _ _] (PySem.Expr.Tuple _ _ _) _ :: _) _) _ _ _)); (fail_if_success (with_reducible show wpAny _ _ (subscriptTail _ (PySem.Expr.Slice _ _ _ _) _ _) _ _ _)); (fail_if_success (with_reducible show wpAny _ _ (binaryOp Operator.Add (Value.ref _) (Value.ref _)) _ _ _)); (fail_if_success (with_reducible show wpAny _ _ (PySem.call (Value.ref _) _ _) _ _ _)); (fail_if_success (with_reducible show wpAny _ _ (eval (Expr.ListComp _ _ _ _) _) _ _ _)); (try dsimp only); walk1) | fail "no step"))
local macro_rules | `(tactic| walk_at "mine enterN") => `(tactic| (refine' call_rawN ?k1 ?k2 ?k3 ?k4 ?k5 ?kA ?kF ?kK ?k6 ?k7 ?k8 ?k9 ?kB ?_ ?c2 ?c3 ?c4 ?c5; (case kA => exact rfl); (case kF => exact rfl); (case kK => assumption); (case k1 => k_asm); (case k2 => k_asm); (case k3 => k_asm); (case k4 => k_asm); (case k5 => k_asm); (case k6 => k_mem); (case k7 => exact codeRec_news (by k_asm) (by k_mem) (by assumption) (by assumption)); (case k8 => ktr_room); (case k9 => exact BindsTo.of_eq rfl); (case c5 => decide); (case kB => exact locs rfl); (case c2 => exact rfl); (case c3 => exact rfl); (case c4 => exact rfl); k_whole; intro L' h' tk' FG' F' N' B' X' T' st' lt'; (try k_lt lt'); (try dsimp only); (try k_lift B'); (try k_fold)))
local macro_rules | `(tactic| walk_at "subscriptTail Name Name ref int") => `(tactic| (k_here; (with_unfolding_all refine' item_ints ?k1 ?k2 ?k3 ?k4 ?k5 ?_ ?k6; (case k1 => first | exact is_list_of (by with_reducible assumption) (by with_reducible assumption) | exact isList_of (by with_reducible assumption) (by k_mem)); (case k2 => with_reducible assumption); (case k3 => omega); (case k4 => omega); (case k5 => omega); (case k6 => with_unfolding_all rfl); k_whole); intro tI))
local macro_rules | `(tactic| walk_at "call builtin:len") => `(tactic| (k_here; (with_reducible show wpAny _ _ (PySem.call (Value.builtin _) [Value.ref _]) _ _ _); k_dflt (refine' len_known ?k1 ?k2 ?k3 ?k4 ?_; (case k1 => k_asm); (case k2 => k_mem); (case k3 => first | with_reducible assumption | exact IntsAre.length (by with_reducible assumption)); (case k4 => omega); k_whole)))
local macro_rules | `(tactic| walk_at "exec For Name Call cons nil") => `(tactic| (k_here; (rename Fr _ _ _ _ => lF'); (with_unfolding_all refine' For_invVF (hE := ?kE) lF' ?k1 ?k2 ?_; (case kE => first | with_reducible assumption | passes_own); (case k1 => exact rfl); (case k2 => exact rfl); k_whole)))
local macro_rules | `(tactic| walk_at "exec For Name List cons nil") => `(tactic| (k_here; (rename Fr _ _ _ _ => lF'); (with_unfolding_all refine' For_invVF (hE := ?kE) lF' ?k1 ?k2 ?_; (case kE => first | with_reducible assumption | passes_own); (case k1 => exact rfl); (case k2 => exact rfl); k_whole)))
set_option maxHeartbeats 8000000 in
theorem d2i_first (w : World) {p : Program} {loose : List Str} {mean : ExcName → Option Value} {mg mb : Str → Option Value}
  {dp un : Nat} {gd : Option (List Code)} {cn : Str} {cs : Scope} {a : Addr} {ccd : Value} {cl : List (Str × Addr)} {outer : List Env} {A₀ : Around} {base h₀ : Heap} {L : Addr} {m : Str → Option Value} {s : Shared} {Q E : Value → Shared → Prop}
  (B : Below A₀ base outer h₀) (F : Fr h₀ L s.heap m) (X : (hd.heap_39 w.params).In h₀) (T : Top p loose mean mg mb h₀) (hke : cs.kind = .function)
  (hd : dp + 10 < recursionLimit) (hu : un + 80 < cLine)
  (N : News h₀ L s.heap [(23, tabObj #[])]) (CH : CodeHd h₀ 27 23)
  {l : Addr} {vs : List Value} {ns : List Int} {tK : Tok}
  (hl : s.heap.IsList l vs.toArray) (hi : IntsAre vs ns) (hbits : ∀ x ∈ ns, 0 ≤ x ∧ x ≤ 1) (hn : ns.length ≤ 8) (hn0 : 0 < ns.length) (hlp : l ≠ 23)
  (hQ : ∀ h' tk t c' oc vsC tq, (∀ b o, b ≠ 23 → s.heap.get? b = some o → h'.get? b = some o) → h'.get? 23 = some (tabObj #[rawInt 20, rawInt 4, .ref c']) → h'.get? c' = some oc → s.heap.get? c' = none → oc.data = .fields vsC → vsC[1]? = some (.str (Str.ofString "_digits2int.<locals>.inner") tq) → Q (.int (val ns 0 ns.length) t) { s with heap := h', toks := tk }) :
  wpAny (model PySem.Challenge.rw_hn0001_01.row.prog w) (ktrTop dp un gd cn cs L a ccd cl outer) (call (.ref 28) [.ref l, .int 1 tK]) Q E s := by
  revert X
  k_fill
  intro X
  refine wpAny_call ?_
  w_top off
  k_dflt (walk_at "mine enterC")
  have hl' := gnd_list N hl (by simpa using hlp)
  rename Heap.StaysIn h₀ _ => st1
  have CH' := CH.keeps st1
  have hlen := hi.length
  walk_at "mine stepsD"
  rename Fr _ _ _ _ => F1
  rename News _ _ _ _ => N1
  rename Below _ _ _ _ => B1
  rename Frag.In _ _ => X1
  rename Top _ _ _ _ _ _ => T1
  k_dflt (refine' d2i_inner w (hI := rfl) ?hoc ?hq ?hoI ?hoN ?hoD CH' hi hbits hn ?hlp ns.length (lo := 0) (hi := ns.length) (dp := dp + 1) (un := un + 3) (by omega) hn0 (Nat.le_refl _) B1 F1 X1 T1 (by rfl) (by omega) (by omega) (news_take5 N1) (is_list_of F1 hl') ?hQ)
  case hoc => assumption
  case hq => assumption
  case hoI => assumption
  case hoN => assumption
  case hoD => assumption
  case hlp => exact list_not_in (news_take5 N1) hl'
  case hQ =>
    intro h2 tk2 t2 st2
    refine hQ h2 tk2 t2 _ _ _ _ (fun b o hb e => st2 b o (F1.keep b o (hideAll_get _ e (by simpa using hb)))) (st2 _ _ (N1 _ (.tail _ (.tail _ (.tail _ (.tail _ (.tail _ (.head _))))))).1) (st2 _ _ (N1 _ (.tail _ (.head _))).1) (fresh_gnd (N1 _ (.tail _ (.head _))).2.2 (by simp only [List.map_cons, List.map_nil, List.mem_singleton]; refine neN ?_; omega)) (by assumption) (by assumption)
end Mine
end
section
open PySem PySem.W PyProof.Rows PySem.Calls
set_option maxRecDepth 100000
namespace Mine
local macro_rules | `(tactic| walk_at "mine enter") => `(tactic| (refine' call_raw ?k1 ?k2 ?k3 ?k4 ?k5 ?kA ?kF ?kK ?k6 ?k7 ?k8 ?k9 ?kB ?_ ?c2 ?c3 ?c4 ?c5; (case kA => exact rfl); (case kF => exact rfl); (case kK => assumption); (case k1 => k_asm); (case k2 => k_asm); (case k3 => k_asm); (case k4 => k_asm); (case k5 => k_asm); (case k6 => k_is); (case k7 => k_is); (case k8 => ktr_room); (case k9 => exact BindsTo.of_eq rfl); (case c5 => decide); (case kB => exact locs rfl); (case c2 => exact rfl); (case c3 => exact rfl); (case c4 => exact rfl); k_whole; intro L' h' tk' FG' F' N' B' X' T' st' lt'; (try k_lt lt'); (try dsimp only); (try k_lift B'); (try k_fold)))
local macro_rules | `(tactic| walk_at "mine steps") => `(tactic| repeat' (first | (k_unfold; (try dsimp only)) | ((fail_if_success (with_reducible show wpAny _ _ (pyIter (Value.ref _)) _ _ _)); (fail_if_success (with_reducible show InvEndN _ _ _ _ _ _ _)); (fail_if_success (with_reducible show UnrEnd _ _ _ _ _ _ _)); (fail_if_success (with_reducible show _ ∧ Keeps _ _)); (fail_if_success (with_reducible show ∃ _, _)); (fail_if_success (with_reducible show wpAny _ _ (exec (Stmt.Assign _ (PySem.Expr.ListComp _ _ _ _) _) _) _ _ _)); (fail_if_success (with_reducible show wpAny _ _ (execs (Stmt.Assign [PySem.Expr.Tuple _ _ _] (PySem.Expr.Tuple _ _ _) _ :: _) _) _ _ _)); (fail_if_success (with_reducible show wpAny _ _ (subscriptTail _ (PySem.Expr.Slice _ _ _ _) _ _) _ _ _)); (fail_if_success (with_reducible show wpAny _ _ (binaryOp Operator.Add (Value.ref _) (Value.ref _)) _ _ _)); (fail_if_success (with_reducible show wpAny _ _ (PySem.call (Value.ref _) _ _) _ _ _)); (fail_if_success (with_reducible show wpAny _ _ (eval (Expr.ListComp _ _ _ _) _) _ _ _)); first | walk1 | (dsimp only; walk1)) | fail "no step"))
local macro_rules | `(tactic| walk_at "execs cons") => `(tactic| ((with_reducible refine wpAny_execs_cons ?_); try dsimp only))
local macro_rules | `(tactic| walk_at "execs nil") => `(tactic| (with_reducible refine wpAny_execs_nil ?_))
local macro_rules | `(tactic| k_all) => `(tactic| assumption)
local macro_rules | `(tactic| walk_at "mine enterC") => `(tactic| (refine' call_rawC ?k1 ?k2 ?k3 ?k4 ?k5 ?kA ?kF ?kK ?k6 ?k7 ?k8 ?k9 ?kB ?kD ?_ ?c2 ?c3 ?c4; (case kA => exact rfl); (case kF => exact rfl); (case kK => assumption); (case k1 => k_asm); (case k2 => k_asm); (case k3 => k_asm); (case k4 => k_asm); (case k5 => k_asm); (case k6 => k_is); (case k7 => k_is); (case k8 => ktr_room); (case k9 => exact BindsTo.of_eq rfl); (case kB => exact rfl); (case kD => decide +kernel); (case c2 => exact rfl); (case c3 => exact rfl); (case c4 => exact rfl); k_whole; intro L' h' tk' cells' FG' F' N' Y' B' X' T' st' lt'; (try k_lt lt'); k_cells Y'; (try simp only [List.cons_append, List.nil_append] at N'); (try dsimp only); (try k_lift B'); (try k_fold)))
local macro_rules | `(tactic| walk_at "mine stepsD") => `(tactic| repeat' (first | (k_unfold; (try dsimp only)) | ((fail_if_success (with_reducible show wpAny _ _ (pyIter (Value.ref _)) _ _ _)); (fail_if_success (with_reducible show InvEndN _ _ _ _ _ _ _)); (fail_if_success (with_reducible show UnrEnd _ _ _ _ _ _ _)); (fail_if_success (with_reducible show _ ∧ Keeps _ _)); (fail_if_success (with_reducible show ∃ _, _)); (fail_if_success (with_reducible show wpAny _ _ (exec (Stmt.Assign _ (PySem.Expr.ListComp _ _ _ _) _) _) _ _ _)); (fail_if_success (with_reducible show wpAny _ _ (execs (Stmt.Assign [PySem.Expr.Tuple _ _ _] (PySem.Expr.Tuple _ _ _) _ :: _) _) _ _ _)); (fail_if_success (with_reducible show wpAny _ _ (subscriptTail _ (PySem.Expr.Slice _ _ _ _) _ _) _ _ _)); (fail_if_success (with_reducible show wpAny _ _ (binaryOp Operator.Add (Value.ref _) (Value.ref _)) _ _ _)); (fail_if_success (with_reducible show wpAny _ _ (PySem.call (Value.ref _) _ _) _ _ _)); (fail_if_success (with_reducible show wpAny _ _ (eval (Expr.ListComp _ _ _ _) _) _ _ _)); (try dsimp only); walk1) | fail "no step"))
local macro_rules | `(tactic| walk_at "mine enterN") => `(tactic| (refine' call_rawN ?k1 ?k2 ?k3 ?k4 ?k5 ?kA ?kF ?kK ?k6 ?k7 ?k8 ?k9 ?kB ?_ ?c2 ?c3 ?c4 ?c5; (case kA => exact rfl); (case kF => exact rfl); (case kK => assumption); (case k1 => k_asm); (case k2 => k_asm); (case k3 => k_asm); (case k4 => k_asm); (case k5 => k_asm); (case k6 => k_mem); (case k7 => exact codeRec_news (by k_asm) (by k_mem) (by assumption) (by assumption)); (case k8 => ktr_room); (case k9 => exact BindsTo.of_eq rfl); (case c5 => decide); (case kB => exact locs rfl); (case c2 => exact rfl); (case c3 => exact rfl); (case c4 => exact rfl); k_whole; intro L' h' tk' FG' F' N' B' X' T' st' lt'; (try k_lt lt'); (try dsimp only); (try k_lift B'); (try k_fold)))
local macro_rules | `(tactic| walk_at "subscriptTail Name Name ref int") => `(tactic| (k_here; (with_unfolding_all refine' item_ints ?k1 ?k2 ?k3 ?k4 ?k5 ?_ ?k6; (case k1 => first | exact is_list_of (by with_reducible assumption) (by with_reducible assumption) | exact isList_of (by with_reducible assumption) (by k_mem)); (case k2 => with_reducible assumption); (case k3 => omega); (case k4 => omega); (case k5 => omega); (case k6 => with_unfolding_all rfl); k_whole); intro tI))
local macro_rules | `(tactic| walk_at "call builtin:len") => `(tactic| (k_here; (with_reducible show wpAny _ _ (PySem.call (Value.builtin _) [Value.ref _]) _ _ _); k_dflt (refine' len_known ?k1 ?k2 ?k3 ?k4 ?_; (case k1 => k_asm); (case k2 => k_mem); (case k3 => first | with_reducible assumption | exact IntsAre.length (by with_reducible assumption)); (case k4 => omega); k_whole)))
local macro_rules | `(tactic| walk_at "exec For Name Call cons nil") => `(tactic| (k_here; (rename Fr _ _ _ _ => lF'); (with_unfolding_all refine' For_invVF (hE := ?kE) lF' ?k1 ?k2 ?_; (case kE => first | with_reducible assumption | passes_own); (case k1 => exact rfl); (case k2 => exact rfl); k_whole)))
local macro_rules | `(tactic| walk_at "exec For Name List cons nil") => `(tactic| (k_here; (rename Fr _ _ _ _ => lF'); (with_unfolding_all refine' For_invVF (hE := ?kE) lF' ?k1 ?k2 ?_; (case kE => first | with_reducible assumption | passes_own); (case k1 => exact rfl); (case k2 => exact rfl); k_whole)))
set_option maxHeartbeats 8000000 in
theorem d2i_hit (w : World) {p : Program} {loose : List Str} {mean : ExcName → Option Value} {mg mb : Str → Option Value}
  {dp un : Nat} {gd : Option (List Code)} {cn : Str} {cs : Scope} {a : Addr} {ccd : Value} {cl : List (Str × Addr)} {outer : List Env} {A₀ : Around} {base h₀ : Heap} {L : Addr} {m : Str → Option Value} {s : Shared} {Q E : Value → Shared → Prop}
  (B : Below A₀ base outer h₀) (F : Fr h₀ L s.heap m) (X : (hd.heap_39 w.params).In h₀) (T : Top p loose mean mg mb h₀) (hke : cs.kind = .function)
  (hd : dp + 10 < recursionLimit) (hu : un + 80 < cLine)
  {c1 : Addr} {oc1 : Obj} {vs1 : Array Value} {tq1 : Tok} (N : News h₀ L s.heap [(23, tabObj #[rawInt 20, rawInt 4, .ref c1]), (c1, oc1)]) (hoc1 : oc1.data = .fields vs1) (hq1 : vs1[1]? = some (.str (Str.ofString "_digits2int.<locals>.inner") tq1)) (CH : CodeHd h₀ 27 23)
  {l : Addr} {vs : List Value} {ns : List Int} {tK : Tok}
  (hl : s.heap.IsList l vs.toArray) (hi : IntsAre vs ns) (hbits : ∀ x ∈ ns, 0 ≤ x ∧ x ≤ 1) (hn : ns.length ≤ 8) (hn0 : 0 < ns.length) (hlp : l ≠ 23) (hlp2 : l ≠ c1)
  (hQ : ∀ h' tk t, s.heap.StaysIn h' → Q (.int (val ns 0 ns.length) t) { s with heap := h', toks := tk }) :
  wpAny (model PySem.Challenge.rw_hn0001_01.row.prog w) (ktrTop dp un gd cn cs L a ccd cl outer) (call (.ref 28) [.ref l, .int 1 tK]) Q E s := by
  revert X
  k_fill
  intro X
  refine wpAny_call ?_
  w_top off
  k_dflt (walk_at "mine enterC")
  have hl' := gnd_list N hl (by simp [hlp, hlp2])
  rename Heap.StaysIn h₀ _ => st1
  have CH' := CH.keeps st1
  have hlen := hi.length
  walk_at "mine stepsD"
  rename Fr _ _ _ _ => F1
  rename News _ _ _ _ => N1
  rename Below _ _ _ _ => B1
  rename Frag.In _ _ => X1
  rename Top _ _ _ _ _ _ => T1
  have N5 := news_mix N1
  k_dflt (refine' d2i_inner w (hI := rfl) ?hoc ?hq ?hoI ?hoN ?hoD CH' hi hbits hn ?hlp ns.length (lo := 0) (hi := ns.length) (dp := dp + 1) (un := un + 3) (by omega) hn0 (Nat.le_refl _) B1 F1 X1 T1 (by rfl) (by omega) (by omega) N5 (is_list_of F1 hl') ?hQ)
  case hoc => assumption
  case hq => assumption
  case hoI => assumption
  case hoN => assumption
  case hoD => assumption
  case hlp => exact list_not_in N5 hl'
  case hQ =>
    intro h2 tk2 t2 st2
    refine hQ h2 tk2 t2 (stays_of N (F1.keeps st2) fun p hp => st2 _ _ (N1 p ?_).1)
    exact List.mem_append_right [_, _, _, _] hp
end Mine
end
section
open PySem PySem.W PyProof.Rows PySem.Calls
set_option maxRecDepth 100000
namespace Mine
local macro_rules | `(tactic| walk_at "mine enter") => `(tactic| (refine' call_raw ?k1 ?k2 ?k3 ?k4 ?k5 ?kA ?kF ?kK ?k6 ?k7 ?k8 ?k9 ?kB ?_ ?c2 ?c3 ?c4 ?c5; (case kA => exact rfl); (case kF => exact rfl); (case kK => assumption); (case k1 => k_asm); (case k2 => k_asm); (case k3 => k_asm); (case k4 => k_asm); (case k5 => k_asm); (case k6 => k_is); (case k7 => k_is); (case k8 => ktr_room); (case k9 => exact BindsTo.of_eq rfl); (case c5 => decide); (case kB => exact locs rfl); (case c2 => exact rfl); (case c3 => exact rfl); (case c4 => exact rfl); k_whole; intro L' h' tk' FG' F' N' B' X' T' st' lt'; (try k_lt lt'); (try dsimp only); (try k_lift B'); (try k_fold)))
local macro_rules | `(tactic| walk_at "mine steps") => `(tactic| repeat' (first | (k_unfold; (try dsimp only)) | ((fail_if_success (with_reducible show wpAny _ _ (pyIter (Value.ref _)) _ _ _)); (fail_if_success (with_reducible show InvEndN _ _ _ _ _ _ _)); (fail_if_success (with_reducible show UnrEnd _ _ _ _ _ _ _)); (fail_if_success (with_reducible show _ ∧ Keeps _ _)); (fail_if_success (with_reducible show ∃ _, _)); (fail_if_success (with_reducible show wpAny _ _ (exec (Stmt.Assign _ (PySem.Expr.ListComp _ _ _ _) _) _) _ _ _)); (fail_if_success (with_reducible show wpAny _ _ (execs (Stmt.Assign [PySem.Expr.Tuple _ _ _] (PySem.Expr.Tuple _ _ _) _ :: _) _) _ _ _)); (fail_if_success (with_reducible show wpAny _ _ (subscriptTail _ (PySem.Expr.Slice _ _ _ _) _ _) _ _ _)); (fail_if_success (with_reducible show wpAny _ _ (binaryOp Operator.Add (Value.ref _) (Value.ref _)) _ _ _)); (fail_if_success (with_reducible show wpAny _ _ (PySem.call (Value.ref _) _ _) _ _ _)); (fail_if_success (with_reducible show wpAny _ _ (eval (Expr.ListComp _ _ _ _) _) _ _ _)); first | walk1 | (dsimp only; walk1)) | fail "no step"))
local macro_rules | `(tactic| walk_at "execs cons") => `(tactic| ((with_reducible refine wpAny_execs_cons ?_); try dsimp only))
local macro_rules | `(tactic| walk_at "execs nil") => `(tactic| (with_reducible refine wpAny_execs_nil ?_))
local macro_rules | `(tactic| k_all) => `(tactic| assumption)
local macro_rules | `(tactic| walk_at "mine enterC") => `(tactic| (refine' call_rawC ?k1 ?k2 ?k3 ?k4 ?k5 ?kA ?kF ?kK ?k6 ?k7 ?k8 ?k9 ?kB ?kD ?_ ?c2 ?c3 ?c4; (case kA => exact rfl); (case kF => exact rfl); (case kK => assumption); (case k1 => k_asm); (case k2 => k_asm); (case k3 => k_asm); (case k4 => k_asm); (case k5 => k_asm); (case k6 => k_is); (case k7 => k_is); (case k8 => ktr_room); (case k9 => exact BindsTo.of_eq rfl); (case kB => exact rfl); (case kD => decide +kernel); (case c2 => exact rfl); (case c3 => exact rfl); (case c4 => exact rfl); k_whole; intro L' h' tk' cells' FG' F' N' Y' B' X' T' st' lt'; (try k_lt lt'); k_cells Y'; (try simp only [List.cons_append, List.nil_append] at N'); (try dsimp only); (try k_lift B'); (try k_fold)))
local macro_rules | `(tactic| walk_at "mine stepsD") => `(tactic| repeat' (first | (k_unfold; (try dsimp only)) | ((fail_if_success (with_reducible show wpAny _ _ (pyIter (Value.ref _)) _ _ _)); (fail_if_success (with_reducible show InvEndN _ _ _ _ _ _ _)); (fail_if_success (with_reducible show UnrEnd _ _ _ _ _ _ _)); (fail_if_success (with_reducible show _ ∧ Keeps _ _)); (fail_if_success (with_reducible show ∃ _, _)); (fail_if_success (with_reducible show wpAny _ _ (exec (Stmt.Assign _ (PySem.Expr.ListComp _ _ _ _) _) _) _ _ _)); (fail_if_success (with_reducible show wpAny _ _ (execs (Stmt.Assign [PySem.Expr.Tuple _ _ _] (PySem.Expr.Tuple _ _ _) _ :: _) _) _ _ _)); (fail_if_success (with_reducible show wpAny _ _ (subscriptTail _ (PySem.Expr.Slice _ _ _ _) _ _) _ _ _)); (fail_if_success (with_reducible show wpAny _ _ (binaryOp Operator.Add (Value.ref _) (Value.ref _)) _ _ _)); (fail_if_success (with_reducible show wpAny _ _ (PySem.call (Value.ref _) _ _) _ _ _)); (fail_if_success (with_reducible show wpAny _ _ (eval (Expr.ListComp _ _ _ _) _) _ _ _)); (try dsimp only); walk1) | fail "no step"))
local macro_rules | `(tactic| walk_at "mine enterN") => `(tactic| (refine' call_rawN ?k1 ?k2 ?k3 ?k4 ?k5 ?kA ?kF ?kK ?k6 ?k7 ?k8 ?k9 ?kB ?_ ?c2 ?c3 ?c4 ?c5; (case kA => exact rfl); (case kF => exact rfl); (case kK => assumption); (case k1 => k_asm); (case k2 => k_asm); (case k3 => k_asm); (case k4 => k_asm); (case k5 => k_asm); (case k6 => k_mem); (case k7 => exact codeRec_news (by k_asm) (by k_mem) (by assumption) (by assumption)); (case k8 => ktr_room); (case k9 => exact BindsTo.of_eq rfl); (case c5 => decide); (case kB => exact locs rfl); (case c2 => exact rfl); (case c3 => exact rfl); (case c4 => exact rfl); k_whole; intro L' h' tk' FG' F' N' B' X' T' st' lt'; (try k_lt lt'); (try dsimp only); (try k_lift B'); (try k_fold)))
local macro_rules | `(tactic| walk_at "subscriptTail Name Name ref int") => `(tactic| (k_here; (with_unfolding_all refine' item_ints ?k1 ?k2 ?k3 ?k4 ?k5 ?_ ?k6; (case k1 => first | exact is_list_of (by with_reducible assumption) (by with_reducible assumption) | exact isList_of (by with_reducible assumption) (by k_mem)); (case k2 => with_reducible assumption); (case k3 => omega); (case k4 => omega); (case k5 => omega); (case k6 => with_unfolding_all rfl); k_whole); intro tI))
local macro_rules | `(tactic| walk_at "call builtin:len") => `(tactic| (k_here; (with_reducible show wpAny _ _ (PySem.call (Value.builtin _) [Value.ref _]) _ _ _); k_dflt (refine' len_known ?k1 ?k2 ?k3 ?k4 ?_; (case k1 => k_asm); (case k2 => k_mem); (case k3 => first | with_reducible assumption | exact IntsAre.length (by with_reducible assumption)); (case k4 => omega); k_whole)))
local macro_rules | `(tactic| walk_at "exec For Name Call cons nil") => `(tactic| (k_here; (rename Fr _ _ _ _ => lF'); (with_unfolding_all refine' For_invVF (hE := ?kE) lF' ?k1 ?k2 ?_; (case kE => first | with_reducible assumption | passes_own); (case k1 => exact rfl); (case k2 => exact rfl); k_whole)))
local macro_rules | `(tactic| walk_at "exec For Name List cons nil") => `(tactic| (k_here; (rename Fr _ _ _ _ => lF'); (with_unfolding_all refine' For_invVF (hE := ?kE) lF' ?k1 ?k2 ?_; (case kE => first | with_reducible assumption | passes_own); (case k1 => exact rfl); (case k2 => exact rfl); k_whole)))
noncomputable def i2dInner : Stmt := match PySem.Challenge.pw_hn0001_01.main.body with
  | _ :: .FunctionDef _ _ (_ :: i :: _) _ _ _ _ _ _ _ :: _ => i
  | s :: _ => s
  | [] => .Pass ⟨0, 0, 0, 0⟩
noncomputable def bit (x j : Nat) : Int := if x.testBit j then 1 else 0
noncomputable def put (ns : List Int) (lo x : Nat) : Nat → List Int
  | 0 => ns
  | d + 1 => (put ns lo x d).set (lo + d) (bit x d)
theorem put_len (ns : List Int) (lo x : Nat) : ∀ d, (put ns lo x d).length = ns.length
  | 0 => rfl
  | d + 1 => by unfold put; rw [List.length_set]; exact put_len ns lo x d
theorem put_mod (ns : List Int) (lo x a : Nat) : ∀ d, d ≤ a → put ns lo (x % 2 ^ a) d = put ns lo x d
  | 0, _ => rfl
  | d + 1, h => by
    unfold put
    rw [put_mod ns lo x a d (by omega)]
    congr 1
    unfold bit
    rw [Nat.testBit_mod_two_pow]
    simp [show d < a by omega]
theorem put_split (ns : List Int) (lo x a : Nat) : ∀ b, put ns lo x (a + b) = put (put ns lo (x % 2 ^ a) a) (lo + a) (x / 2 ^ a) b
  | 0 => (put_mod ns lo x a a (Nat.le_refl _)).symm
  | b + 1 => by
    show (put ns lo x (a + b)).set (lo + (a + b)) (bit x (a + b)) = (put (put ns lo (x % 2 ^ a) a) (lo + a) (x / 2 ^ a) b).set (lo + a + b) (bit (x / 2 ^ a) b)
    rw [put_split ns lo x a b, Nat.add_assoc]
    congr 1
    unfold bit
    rw [Nat.testBit_div_two_pow, Nat.add_comm b a]
theorem put_one (ns : List Int) (lo x : Nat) (h : x < 2) : put ns lo x 1 = ns.set lo (x : Int) := by
  have : x = 0 ∨ x = 1 := by omega
  rcases this with rfl | rfl <;> rfl
theorem xor_low {x s : Nat} (hx : x < 256) (hs : s ≤ 8) : Builtin.bitXor (x : Int) (((x / 2 ^ s : Nat) : Int) * 2 ^ s) = ((x % 2 ^ s : Nat) : Int) := by
  have all : ∀ x : Fin 256, ∀ s : Fin 9, Builtin.bitXor ((x.val : Nat) : Int) (((x.val / 2 ^ s.val : Nat) : Int) * 2 ^ s.val) = ((x.val % 2 ^ s.val : Nat) : Int) := by decide +kernel
  exact all ⟨x, hx⟩ ⟨s, by omega⟩
theorem shr_nat (x s : Nat) : (x : Int).fdiv (2 ^ s) = ((x / 2 ^ s : Nat) : Int) := by
  rw [Int.fdiv_eq_ediv_of_nonneg _ (Int.le_of_lt (Int.pow_pos (by decide)))]
  simp
set_option maxHeartbeats 8000000 in
theorem i2d_inner (w : World) {nm qual : Str} {params : Arguments} {body : List Stmt} {dl : List Expr} {rt : Option Expr} {tps : List TypeParam} {scope : Scope} {tsc : Option Scope} {bd : Str} {pos : Pos} (hI : i2dInner = .FunctionDef nm params body dl rt tps scope tsc bd pos)
  {p : Program} {loose : List Str} {mean : ExcName → Option Value} {mg mb : Str → Option Value}
  {lD : Addr} {ver : Nat} {f c' cI cN cD : Addr} {oc oI oN oD : Obj} {doc ctv pm : Value} {vsC : Array Value} {tq tK : Tok}
  (hoc : oc.data = .fields vsC) (hq : vsC[1]? = some (.str qual tq)) (hoI : oI.data = .cell (some (.ref f))) (hoN : oN.data = .cell (some (.int 1 tK))) (hoD : oD.data = .cell (some (.ref lD)))
  {g0 : Heap} (CH0 : CodeHd g0 20 16) (a1 : @Ne Nat f lD) (a2 : @Ne Nat c' lD) (a3 : @Ne Nat cI lD) (a4 : @Ne Nat cN lD) (a5 : @Ne Nat cD lD) :
  ∀ (d : Nat) {x lo hi : Nat} {ns : List Int} {vs : List Value} {tX tL tR : Tok} {dp un : Nat} {gd : Option (List Code)} {cn : Str} {cs : Scope} {a : Addr} {ccd : Value} {cl : List (Str × Addr)} {outer : List Env} {A₀ : Around} {base h₀ : Heap} {L : Addr} {m : Str → Option Value} {s : Shared} {Q E : Value → Shared → Prop},
  hi = lo + d → 0 < d → hi ≤ ns.length → ns.length ≤ 8 → x < 2 ^ d → IntsAre vs ns →
  Below A₀ base outer h₀ → Fr h₀ L s.heap m → (hd.heap_39 w.params).In h₀ → Top p loose mean mg mb h₀ → cs.kind = .function → dp + d < recursionLimit → un + 8 * d < cLine →
  News h₀ L s.heap [(f, fnMade nm qual params body scope [(Str.ofString "n", cN), (Str.ofString "inner", cI), (Str.ofString "a_digits", cD)] doc pm c' ctv), (c', oc), (lD, W.listOf vs.toArray ver), (cI, oI), (cN, oN), (cD, oD)] →
  (∀ h' tk vs', (∀ b o, b ≠ lD → s.heap.get? b = some o → h'.get? b = some o) → h'.get? lD = some (W.listOf (List.toArray vs') ver) → IntsAre vs' (put ns lo x d) → Q .none { s with heap := h', toks := tk }) →
  wpAny (model PySem.Challenge.rw_hn0001_01.row.prog w) (ktrTop dp un gd cn cs L a ccd cl outer) (call (.ref f) [.int (x : Int) tX, .int (lo : Int) tL, .int (hi : Int) tR]) Q E s := by
  cases hI
  intro d
  induction d using Nat.strongRecOn with
  | ind d ih =>
  intro x lo hi ns vs tX tL tR dp un gd cn cs a ccd cl outer A₀ base h₀ L m s Q E ehi hd0 hle hn hx hvs B F X T hke hdp hun N hQ
  revert X
  k_fill
  intro X
  refine wpAny_call ?_
  w_top off
  k_dflt (walk_at "mine enterN")
  have hx8 : x < 256 := Nat.lt_of_lt_of_le hx (Nat.le_trans (Nat.pow_le_pow_right (by decide) (show d ≤ 8 by omega)) (by decide))
  have e2 := mid_nat lo hi
  generalize hmid : (lo + hi) / 2 = mid at e2
  walk_at "mine stepsD"
  · rename _ = _ => heq
    have e1 : d = 1 := by omega
    subst e1
    rename Fr _ _ _ _ => F1
    rename News _ _ _ _ => N1
    rename IntsAre (List.set _ _ _) _ => hv1
    rw [Int.toNat_natCast] at N1 hv1
    exact hQ _ _ _ (stays_but N F1 (news6_hk N1)) (N1 _ (.tail _ (.tail _ (.head _)))).1 (by rw [put_one _ _ _ hx]; exact hv1)
  · rename ¬ _ = _ => hne
    rename Fr _ _ _ _ => F1
    rename News _ _ _ _ => N1
    rename Below _ _ _ _ => B1
    rename Frag.In _ _ => X1
    rename Top _ _ _ _ _ _ => T1
    have hs8 : mid - lo ≤ 8 := by omega
    have hsh : ((mid : Int) - (lo : Int)) * 1 = ((mid - lo : Nat) : Int) := by omega
    rw [e2, hsh, Int.toNat_natCast, shr_nat, xor_low hx8 hs8] at F1
    rw [e2, hsh, Int.toNat_natCast, shr_nat, xor_low hx8 hs8]
    have zD := N1 _ (.tail _ (.tail _ (.head _)))
    refine ih (mid - lo) (by omega) (dp := dp + 1) (un := un + 3) (x := x % 2 ^ (mid - lo)) (lo := lo) (hi := mid) (by omega) (by omega) (by omega) hn (Nat.mod_lt _ (Nat.two_pow_pos _)) hvs B1 F1 X1 T1 (by rfl) (by omega) (by omega) N1 ?_
    intro h1 tk1 vs1 k1 eD1 hv1
    have F2 := fr_at F1 k1 zD.2.1 zD.2.2
    have N2 := news6_set N1 k1 eD1 a1 a2 a3 a4 a5
    clear F1 N1
    walk_at "mine stepsD"
    rename Fr _ _ _ _ => F3
    rename News _ _ _ _ => N3
    have zD3 := N3 _ (.tail _ (.tail _ (.head _)))
    have hdiv : x / 2 ^ (mid - lo) < 2 ^ (hi - mid) := by
      refine Nat.div_lt_of_lt_mul ?_
      rw [← Nat.pow_add, show mid - lo + (hi - mid) = d by omega]
      exact hx
    have hpl := put_len ns lo (x % 2 ^ (mid - lo)) (mid - lo)
    refine ih (hi - mid) (by omega) (dp := dp + 1) (un := un + 3) (x := x / 2 ^ (mid - lo)) (lo := mid) (hi := hi) (ns := put ns lo (x % 2 ^ (mid - lo)) (mid - lo)) (by omega) (by omega) (by omega) (by omega) hdiv hv1 B1 F3 X1 T1 (by rfl) (by omega) (by omega) N3 ?_
    intro h2 tk2 vs2 k2 eD2 hv2
    have F4 := fr_at F3 k2 zD3.2.1 zD3.2.2
    have N4 := news6_set N3 k2 eD2 a1 a2 a3 a4 a5
    clear F3 N3
    walk_at "mine stepsD"
    have hsp := put_split ns lo x (mid - lo) (hi - mid)
    rw [show mid - lo + (hi - mid) = d by omega, show lo + (mid - lo) = mid by omega] at hsp
    exact hQ _ _ _ (stays_but N F4 (news6_hk N4)) eD2 (by rw [hsp]; exact hv2)
end Mine
end
section
open PySem PySem.W PyProof.Rows PySem.Calls
set_option maxRecDepth 100000
namespace Mine
local macro_rules | `(tactic| walk_at "mine enter") => `(tactic| (refine' call_raw ?k1 ?k2 ?k3 ?k4 ?k5 ?kA ?kF ?kK ?k6 ?k7 ?k8 ?k9 ?kB ?_ ?c2 ?c3 ?c4 ?c5; (case kA => exact rfl); (case kF => exact rfl); (case kK => assumption); (case k1 => k_asm); (case k2 => k_asm); (case k3 => k_asm); (case k4 => k_asm); (case k5 => k_asm); (case k6 => k_is); (case k7 => k_is); (case k8 => ktr_room); (case k9 => exact BindsTo.of_eq rfl); (case c5 => decide); (case kB => exact locs rfl); (case c2 => exact rfl); (case c3 => exact rfl); (case c4 => exact rfl); k_whole; intro L' h' tk' FG' F' N' B' X' T' st' lt'; (try k_lt lt'); (try dsimp only); (try k_lift B'); (try k_fold)))
local macro_rules | `(tactic| walk_at "mine steps") => `(tactic| repeat' (first | (k_unfold; (try dsimp only)) | ((fail_if_success (with_reducible show wpAny _ _ (pyIter (Value.ref _)) _ _ _)); (fail_if_success (with_reducible show InvEndN _ _ _ _ _ _ _)); (fail_if_success (with_reducible show UnrEnd _ _ _ _ _ _ _)); (fail_if_success (with_reducible show _ ∧ Keeps _ _)); (fail_if_success (with_reducible show ∃ _, _)); (fail_if_success (with_reducible show wpAny _ _ (exec (Stmt.Assign _ (PySem.Expr.ListComp _ _ _ _) _) _) _ _ _)); (fail_if_success (with_reducible show wpAny _ _ (execs (Stmt.Assign [PySem.Expr.Tuple _ _ _] (PySem.Expr.Tuple _ _ _) _ :: _) _) _ _ _)); (fail_if_success (with_reducible show wpAny _ _ (subscriptTail _ (PySem.Expr.Slice _ _ _ _) _ _) _ _ _)); (fail_if_success (with_reducible show wpAny _ _ (binaryOp Operator.Add (Value.ref _) (Value.ref _)) _ _ _)); (fail_if_success (with_reducible show wpAny _ _ (PySem.call (Value.ref _) _ _) _ _ _)); (fail_if_success (with_reducible show wpAny _ _ (eval (Expr.ListComp _ _ _ _) _) _ _ _)); first | walk1 | (dsimp only; walk1)) | fail "no step"))
local macro_rules | `(tactic| walk_at "execs cons") => `(tactic| ((with_reducible refine wpAny_execs_cons ?_); try dsimp only))
local macro_rules | `(tactic| walk_at "execs nil") => `(tactic| (with_reducible refine wpAny_execs_nil ?_))
local macro_rules | `(tactic| k_all) => `(tactic| assumption)
local macro_rules | `(tactic| walk_at "mine enterC") => `(tactic| (refine' call_rawC ?k1 ?k2 ?k3 ?k4 ?k5 ?kA ?kF ?kK ?k6 ?k7 ?k8 ?k9 ?kB ?kD ?_ ?c2 ?c3 ?c4; (case kA => exact rfl); (case kF => exact rfl); (case kK => assumption); (case k1 => k_asm); (case k2 => k_asm); (case k3 => k_asm); (case k4 => k_asm); (case k5 => k_asm); (case k6 => k_is); (case k7 => k_is); (case k8 => ktr_room); (case k9 => exact BindsTo.of_eq rfl); (case kB => exact rfl); (case kD => decide +kernel); (case c2 => exact rfl); (case c3 => exact rfl); (case c4 => exact rfl); k_whole; intro L' h' tk' cells' FG' F' N' Y' B' X' T' st' lt'; (try k_lt lt'); k_cells Y'; (try simp only [List.cons_append, List.nil_append] at N'); (try dsimp only); (try k_lift B'); (try k_fold)))
local macro_rules | `(tactic| walk_at "mine stepsD") => `(tactic| repeat' (first | (k_unfold; (try dsimp only)) | ((fail_if_success (with_reducible show wpAny _ _ (pyIter (Value.ref _)) _ _ _)); (fail_if_success (with_reducible show InvEndN _ _ _ _ _ _ _)); (fail_if_success (with_reducible show UnrEnd _ _ _ _ _ _ _)); (fail_if_success (with_reducible show _ ∧ Keeps _ _)); (fail_if_success (with_reducible show ∃ _, _)); (fail_if_success (with_reducible show wpAny _ _ (exec (Stmt.Assign _ (PySem.Expr.ListComp _ _ _ _) _) _) _ _ _)); (fail_if_success (with_reducible show wpAny _ _ (execs (Stmt.Assign [PySem.Expr.Tuple _ _ _] (PySem.Expr.Tuple _ _ _) _ :: _) _) _ _ _)); (fail_if_success (with_reducible show wpAny _ _ (subscriptTail _ (PySem.Expr.Slice _ _ _ _) _ _) _ _ _)); (fail_if_success (with_reducible show wpAny _ _ (binaryOp Operator.Add (Value.ref _) (Value.ref _)) _ _ _)); (fail_if_success (with_reducible show wpAny _ _ (PySem.call (Value.ref _) _ _) _ _ _)); (fail_if_success (with_reducible show wpAny _ _ (eval (Expr.ListComp _ _ _ _) _) _ _ _)); (try dsimp only); walk1) | fail "no step"))
local macro_rules | `(tactic| walk_at "mine enterN") => `(tactic| (refine' call_rawN ?k1 ?k2 ?k3 ?k4 ?k5 ?kA ?kF ?kK ?k6 ?k7 ?k8 ?k9 ?kB ?_ ?c2 ?c3 ?c4 ?c5; (case kA => exact rfl); (case kF => exact rfl); (case kK => assumption); (case k1 => k_asm); (case k2 => k_asm); (case k3 => k_asm); (case k4 => k_asm); (case k5 => k_asm); (case k6 => k_mem); (case k7 => exact codeRec_news (by k_asm) (by k_mem) (by assumption) (by assumption)); (case k8 => ktr_room); (case k9 => exact BindsTo.of_eq rfl); (case c5 => decide); (case kB => exact locs rfl); (case c2 => exact rfl); (case c3 => exact rfl); (case c4 => exact rfl); k_whole; intro L' h' tk' FG' F' N' B' X' T' st' lt'; (try k_lt lt'); (try dsimp only); (try k_lift B'); (try k_fold)))
local macro_rules | `(tactic| walk_at "subscriptTail Name Name ref int") => `(tactic| (k_here; (with_unfolding_all refine' item_ints ?k1 ?k2 ?k3 ?k4 ?k5 ?_ ?k6; (case k1 => first | exact is_list_of (by with_reducible assumption) (by with_reducible assumption) | exact isList_of (by with_reducible assumption) (by k_mem)); (case k2 => with_reducible assumption); (case k3 => omega); (case k4 => omega); (case k5 => omega); (case k6 => with_unfolding_all rfl); k_whole); intro tI))
local macro_rules | `(tactic| walk_at "call builtin:len") => `(tactic| (k_here; (with_reducible show wpAny _ _ (PySem.call (Value.builtin _) [Value.ref _]) _ _ _); k_dflt (refine' len_known ?k1 ?k2 ?k3 ?k4 ?_; (case k1 => k_asm); (case k2 => k_mem); (case k3 => first | with_reducible assumption | exact IntsAre.length (by with_reducible assumption)); (case k4 => omega); k_whole)))
local macro_rules | `(tactic| walk_at "exec For Name Call cons nil") => `(tactic| (k_here; (rename Fr _ _ _ _ => lF'); (with_unfolding_all refine' For_invVF (hE := ?kE) lF' ?k1 ?k2 ?_; (case kE => first | with_reducible assumption | passes_own); (case k1 => exact rfl); (case k2 => exact rfl); k_whole)))
local macro_rules | `(tactic| walk_at "exec For Name List cons nil") => `(tactic| (k_here; (rename Fr _ _ _ _ => lF'); (with_unfolding_all refine' For_invVF (hE := ?kE) lF' ?k1 ?k2 ?_; (case kE => first | with_reducible assumption | passes_own); (case k1 => exact rfl); (case k2 => exact rfl); k_whole)))
theorem flat_zero : ∀ n, (List.replicate n [(0 : Int)]).flatten = List.replicate n 0
  | 0 => rfl
  | n + 1 => by rw [List.replicate_succ, List.flatten_cons, flat_zero n]; rfl
theorem blen_facts {x : Nat} (h1 : x < 256) : Builtin.Int.intBits (x : Int) ≤ 8 ∧ x < 2 ^ Builtin.Int.intBits (x : Int) ∧ (x = 0 ↔ Builtin.Int.intBits (x : Int) = 0) := by
  have all : ∀ n : Fin 256, Builtin.Int.intBits ((n.val : Nat) : Int) ≤ 8 ∧ n.val < 2 ^ Builtin.Int.intBits ((n.val : Nat) : Int) ∧ (n.val = 0 ↔ Builtin.Int.intBits ((n.val : Nat) : Int) = 0) := by decide +kernel
  exact all ⟨x, h1⟩
noncomputable def digs (x : Nat) : List Int := put (List.replicate (Builtin.Int.intBits (x : Int)) 0) 0 x (Builtin.Int.intBits (x : Int))
set_option maxHeartbeats 8000000 in
theorem i2d_first (w : World) {p : Program} {loose : List Str} {mean : ExcName → Option Value} {mg mb : Str → Option Value}
  {dp un : Nat} {gd : Option (List Code)} {cn : Str} {cs : Scope} {a : Addr} {ccd : Value} {cl : List (Str × Addr)} {outer : List Env} {A₀ : Around} {base h₀ : Heap} {L : Addr} {m : Str → Option Value} {s : Shared} {Q E : Value → Shared → Prop}
  (B : Below A₀ base outer h₀) (F : Fr h₀ L s.heap m) (X : (hd.heap_39 w.params).In h₀) (T : Top p loose mean mg mb h₀) (hke : cs.kind = .function)
  (hd : dp + 10 < recursionLimit) (hu : un + 80 < cLine)
  (N : News h₀ L s.heap [(16, tabObj #[])]) (CH : CodeHd h₀ 20 16)
  {x : Nat} {tX tK : Tok} (hx1 : x < 256)
  (hQ : ∀ h' tk r ws v c' oc vsC tq, (∀ b o, b ≠ 16 → s.heap.get? b = some o → h'.get? b = some o) → h'.get? 16 = some (tabObj #[rawInt 5, rawInt 4, .ref c']) → h'.get? c' = some oc → s.heap.get? c' = none → oc.data = .fields vsC → vsC[1]? = some (.str (Str.ofString "_int2digits.<locals>.inner") tq) →
    h'.get? r = some (W.listOf (List.toArray ws) v) → IntsAre ws (digs x) → s.heap.get? r = none → @Ne Nat r c' → Q (.ref r) { s with heap := h', toks := tk }) :
  wpAny (model PySem.Challenge.rw_hn0001_01.row.prog w) (ktrTop dp un gd cn cs L a ccd cl outer) (call (.ref 21) [.int (x : Int) tX, .int 1 tK]) Q E s := by
  revert X
  k_fill
  intro X
  refine wpAny_call ?_
  w_top off
  k_dflt (walk_at "mine enterC")
  rename Heap.StaysIn h₀ _ => st1
  have CH' := CH.keeps st1
  walk_at "mine stepsD"
  rename Fr _ _ _ _ => F1
  rename News _ _ _ _ => N1
  obtain ⟨hb1, hb2, hb3⟩ := blen_facts hx1
  have e1 : ((Builtin.Int.intBits (x : Int) : Int) + 1 - 1).fdiv 1 = (Builtin.Int.intBits (x : Int) : Int) := by rw [Int.fdiv_eq_ediv_of_nonneg _ (by decide)]; omega
  rw [e1]
  generalize hnb : Builtin.Int.intBits (x : Int) = nb at hb1 hb2 hb3 ⊢
  refine KM.mul F1 N1 (isList_of N1 (.head _)) (.cons 0 _ .nil) (by omega) (by omega) (by simp only [List.length_cons, List.length_nil, Int.toNat_natCast]; omega) ?_
  intro D h2 F2 N2 lt2 hiD _ _ _ _ _
  rw [Int.toNat_natCast] at N2 hiD
  generalize hV : (List.replicate nb [Value.int 0 _]).flatten = vD at N2 hiD
  rw [flat_zero] at hiD
  have hsz : (List.toArray vD).size = nb := by rw [List.size_toArray, hiD.length, List.length_replicate]
  k_lt lt2
  clear F1 N1
  walk_at "mine stepsD"
  · rename ¬ _ = _ => hne
    rename Fr _ _ _ _ => F1
    rename News _ _ _ _ => N1
    rename Below _ _ _ _ => B1
    rename Frag.In _ _ => X1
    rename Top _ _ _ _ _ _ => T1
    have zD := N1 _ (.tail _ (.tail _ (.head _)))
    have N6 := news_pick8 N1
    have hdg : put (List.replicate nb 0) 0 x nb = digs x := by unfold digs; rw [hnb]
    k_dflt (refine' i2d_inner w (hI := rfl) ?hoc ?hq ?hoI ?hoN ?hoD CH' ?a1 ?a2 ?a3 ?a4 ?a5 nb (x := x) (lo := 0) (hi := nb) (ns := List.replicate nb 0) (vs := vD) (dp := dp + 1) (un := un + 3) (by omega) (by omega) (by rw [List.length_replicate]; omega) (by rw [List.length_replicate]; omega) hb2 hiD B1 F1 X1 T1 (by rfl) (by omega) (by omega) N6 ?hQ)
    case hoc => assumption
    case hq => assumption
    case hoI => assumption
    case hoN => assumption
    case hoD => assumption
    case a1 => refine neN ?_; omega
    case a2 => refine neN ?_; omega
    case a3 => refine neN ?_; omega
    case a4 => refine neN ?_; omega
    case a5 => refine neN ?_; omega
    case hQ =>
      intro h3 tk3 vs3 k3 e3 hv3
      have F3 := fr_at F1 k3 zD.2.1 zD.2.2
      have N3 := news_off8 N1 k3 (neN (by omega)) (neN (by omega)) (neN (by omega)) (neN (by omega)) (neN (by omega)) (neN (by omega))
      have kk : ∀ b o, b ≠ 16 → s.heap.get? b = some o → h3.get? b = some o := fun b o hb e => by
        have e' : (gnd s.heap [(16, tabObj #[])]).get? b = some o := hideAll_get _ e (by simpa using hb)
        exact k3 b o (fun q => by rw [q, zD.2.2] at e'; cases e') (F1.keep b o e')
      rw [hdg] at hv3
      clear F1 N1
      walk_at "mine stepsD"
      exact hQ _ _ _ _ _ _ _ _ _ kk (N3 _ (.tail _ (.tail _ (.tail _ (.tail _ (.tail _ (.head _))))))).1 (N3 _ (.tail _ (.head _))).1 (fresh_gnd (N3 _ (.tail _ (.head _))).2.2 (by simp only [List.map_cons, List.map_nil, List.mem_singleton]; refine neN ?_; omega)) (by assumption) (by assumption) e3 hv3
        (fresh_gnd zD.2.2 (by simp only [List.map_cons, List.map_nil, List.mem_singleton]; refine neN ?_; omega)) (neN (by omega))
  · rename (_ : Int) = 0 => hx0
    rename Fr _ _ _ _ => F1
    rename News _ _ _ _ => N1
    have zD := N1 _ (.tail _ (.tail _ (.head _)))
    have hnb0 : nb = 0 := hb3.mp (by omega)
    have hx00 : x = 0 := by omega
    subst hx00
    have hdg : List.replicate nb (0 : Int) = digs 0 := by rw [hnb0]; rfl
    rw [hdg] at hiD
    have kk : ∀ b o, b ≠ 16 → s.heap.get? b = some o → _ := fun b o hb e => F1.keep b o (hideAll_get [16] e (by simpa using hb))
    exact hQ _ _ _ _ _ _ _ _ _ kk (N1 _ (.tail _ (.tail _ (.tail _ (.tail _ (.tail _ (.tail _ (.tail _ (.head _))))))))).1 (N1 _ (.tail _ (.head _))).1 (fresh_gnd (N1 _ (.tail _ (.head _))).2.2 (by simp only [List.map_cons, List.map_nil, List.mem_singleton]; refine neN ?_; omega)) (by assumption) (by assumption) zD.1 hiD
        (fresh_gnd zD.2.2 (by simp only [List.map_cons, List.map_nil, List.mem_singleton]; refine neN ?_; omega)) (neN (by omega))
end Mine
end
section
open PySem PySem.W PyProof.Rows PySem.Calls
set_option maxRecDepth 100000
namespace Mine
local macro_rules | `(tactic| walk_at "mine enter") => `(tactic| (refine' call_raw ?k1 ?k2 ?k3 ?k4 ?k5 ?kA ?kF ?kK ?k6 ?k7 ?k8 ?k9 ?kB ?_ ?c2 ?c3 ?c4 ?c5; (case kA => exact rfl); (case kF => exact rfl); (case kK => assumption); (case k1 => k_asm); (case k2 => k_asm); (case k3 => k_asm); (case k4 => k_asm); (case k5 => k_asm); (case k6 => k_is); (case k7 => k_is); (case k8 => ktr_room); (case k9 => exact BindsTo.of_eq rfl); (case c5 => decide); (case kB => exact locs rfl); (case c2 => exact rfl); (case c3 => exact rfl); (case c4 => exact rfl); k_whole; intro L' h' tk' FG' F' N' B' X' T' st' lt'; (try k_lt lt'); (try dsimp only); (try k_lift B'); (try k_fold)))
local macro_rules | `(tactic| walk_at "mine steps") => `(tactic| repeat' (first | (k_unfold; (try dsimp only)) | ((fail_if_success (with_reducible show wpAny _ _ (pyIter (Value.ref _)) _ _ _)); (fail_if_success (with_reducible show InvEndN _ _ _ _ _ _ _)); (fail_if_success (with_reducible show UnrEnd _ _ _ _ _ _ _)); (fail_if_success (with_reducible show _ ∧ Keeps _ _)); (fail_if_success (with_reducible show ∃ _, _)); (fail_if_success (with_reducible show wpAny _ _ (exec (Stmt.Assign _ (PySem.Expr.ListComp _ _ _ _) _) _) _ _ _)); (fail_if_success (with_reducible show wpAny _ _ (execs (Stmt.Assign [PySem.Expr.Tuple _ _ _] (PySem.Expr.Tuple _ _ _) _ :: _) _) _ _ _)); (fail_if_success (with_reducible show wpAny _ _ (subscriptTail _ (PySem.Expr.Slice _ _ _ _) _ _) _ _ _)); (fail_if_success (with_reducible show wpAny _ _ (binaryOp Operator.Add (Value.ref _) (Value.ref _)) _ _ _)); (fail_if_success (with_reducible show wpAny _ _ (PySem.call (Value.ref _) _ _) _ _ _)); (fail_if_success (with_reducible show wpAny _ _ (eval (Expr.ListComp _ _ _ _) _) _ _ _)); first | walk1 | (dsimp only; walk1)) | fail "no step"))
local macro_rules | `(tactic| walk_at "execs cons") => `(tactic| ((with_reducible refine wpAny_execs_cons ?_); try dsimp only))
local macro_rules | `(tactic| walk_at "execs nil") => `(tactic| (with_reducible refine wpAny_execs_nil ?_))
local macro_rules | `(tactic| k_all) => `(tactic| assumption)
local macro_rules | `(tactic| walk_at "mine enterC") => `(tactic| (refine' call_rawC ?k1 ?k2 ?k3 ?k4 ?k5 ?kA ?kF ?kK ?k6 ?k7 ?k8 ?k9 ?kB ?kD ?_ ?c2 ?c3 ?c4; (case kA => exact rfl); (case kF => exact rfl); (case kK => assumption); (case k1 => k_asm); (case k2 => k_asm); (case k3 => k_asm); (case k4 => k_asm); (case k5 => k_asm); (case k6 => k_is); (case k7 => k_is); (case k8 => ktr_room); (case k9 => exact BindsTo.of_eq rfl); (case kB => exact rfl); (case kD => decide +kernel); (case c2 => exact rfl); (case c3 => exact rfl); (case c4 => exact rfl); k_whole; intro L' h' tk' cells' FG' F' N' Y' B' X' T' st' lt'; (try k_lt lt'); k_cells Y'; (try simp only [List.cons_append, List.nil_append] at N'); (try dsimp only); (try k_lift B'); (try k_fold)))
local macro_rules | `(tactic| walk_at "mine stepsD") => `(tactic| repeat' (first | (k_unfold; (try dsimp only)) | ((fail_if_success (with_reducible show wpAny _ _ (pyIter (Value.ref _)) _ _ _)); (fail_if_success (with_reducible show InvEndN _ _ _ _ _ _ _)); (fail_if_success (with_reducible show UnrEnd _ _ _ _ _ _ _)); (fail_if_success (with_reducible show _ ∧ Keeps _ _)); (fail_if_success (with_reducible show ∃ _, _)); (fail_if_success (with_reducible show wpAny _ _ (exec (Stmt.Assign _ (PySem.Expr.ListComp _ _ _ _) _) _) _ _ _)); (fail_if_success (with_reducible show wpAny _ _ (execs (Stmt.Assign [PySem.Expr.Tuple _ _ _] (PySem.Expr.Tuple _ _ _) _ :: _) _) _ _ _)); (fail_if_success (with_reducible show wpAny _ _ (subscriptTail _ (PySem.Expr.Slice _ _ _ _) _ _) _ _ _)); (fail_if_success (with_reducible show wpAny _ _ (binaryOp Operator.Add (Value.ref _) (Value.ref _)) _ _ _)); (fail_if_success (with_reducible show wpAny _ _ (PySem.call (Value.ref _) _ _) _ _ _)); (fail_if_success (with_reducible show wpAny _ _ (eval (Expr.ListComp _ _ _ _) _) _ _ _)); (try dsimp only); walk1) | fail "no step"))
local macro_rules | `(tactic| walk_at "mine enterN") => `(tactic| (refine' call_rawN ?k1 ?k2 ?k3 ?k4 ?k5 ?kA ?kF ?kK ?k6 ?k7 ?k8 ?k9 ?kB ?_ ?c2 ?c3 ?c4 ?c5; (case kA => exact rfl); (case kF => exact rfl); (case kK => assumption); (case k1 => k_asm); (case k2 => k_asm); (case k3 => k_asm); (case k4 => k_asm); (case k5 => k_asm); (case k6 => k_mem); (case k7 => exact codeRec_news (by k_asm) (by k_mem) (by assumption) (by assumption)); (case k8 => ktr_room); (case k9 => exact BindsTo.of_eq rfl); (case c5 => decide); (case kB => exact locs rfl); (case c2 => exact rfl); (case c3 => exact rfl); (case c4 => exact rfl); k_whole; intro L' h' tk' FG' F' N' B' X' T' st' lt'; (try k_lt lt'); (try dsimp only); (try k_lift B'); (try k_fold)))
local macro_rules | `(tactic| walk_at "subscriptTail Name Name ref int") => `(tactic| (k_here; (with_unfolding_all refine' item_ints ?k1 ?k2 ?k3 ?k4 ?k5 ?_ ?k6; (case k1 => first | exact is_list_of (by with_reducible assumption) (by with_reducible assumption) | exact isList_of (by with_reducible assumption) (by k_mem)); (case k2 => with_reducible assumption); (case k3 => omega); (case k4 => omega); (case k5 => omega); (case k6 => with_unfolding_all rfl); k_whole); intro tI))
local macro_rules | `(tactic| walk_at "call builtin:len") => `(tactic| (k_here; (with_reducible show wpAny _ _ (PySem.call (Value.builtin _) [Value.ref _]) _ _ _); k_dflt (refine' len_known ?k1 ?k2 ?k3 ?k4 ?_; (case k1 => k_asm); (case k2 => k_mem); (case k3 => first | with_reducible assumption | exact IntsAre.length (by with_reducible assumption)); (case k4 => omega); k_whole)))
local macro_rules | `(tactic| walk_at "exec For Name Call cons nil") => `(tactic| (k_here; (rename Fr _ _ _ _ => lF'); (with_unfolding_all refine' For_invVF (hE := ?kE) lF' ?k1 ?k2 ?_; (case kE => first | with_reducible assumption | passes_own); (case k1 => exact rfl); (case k2 => exact rfl); k_whole)))
local macro_rules | `(tactic| walk_at "exec For Name List cons nil") => `(tactic| (k_here; (rename Fr _ _ _ _ => lF'); (with_unfolding_all refine' For_invVF (hE := ?kE) lF' ?k1 ?k2 ?_; (case kE => first | with_reducible assumption | passes_own); (case k1 => exact rfl); (case k2 => exact rfl); k_whole)))
set_option maxHeartbeats 8000000 in
theorem i2d_hit (w : World) {p : Program} {loose : List Str} {mean : ExcName → Option Value} {mg mb : Str → Option Value}
  {dp un : Nat} {gd : Option (List Code)} {cn : Str} {cs : Scope} {a : Addr} {ccd : Value} {cl : List (Str × Addr)} {outer : List Env} {A₀ : Around} {base h₀ : Heap} {L : Addr} {m : Str → Option Value} {s : Shared} {Q E : Value → Shared → Prop}
  (B : Below A₀ base outer h₀) (F : Fr h₀ L s.heap m) (X : (hd.heap_39 w.params).In h₀) (T : Top p loose mean mg mb h₀) (hke : cs.kind = .function)
  (hd : dp + 10 < recursionLimit) (hu : un + 80 < cLine)
  {c1 : Addr} {oc1 : Obj} {vs1 : Array Value} {tq1 : Tok} (N : News h₀ L s.heap [(16, tabObj #[rawInt 5, rawInt 4, .ref c1]), (c1, oc1)]) (hoc1 : oc1.data = .fields vs1) (hq1 : vs1[1]? = some (.str (Str.ofString "_int2digits.<locals>.inner") tq1)) (CH : CodeHd h₀ 20 16)
  {x : Nat} {tX tK : Tok} (hx1 : x < 256)
  (hQ : ∀ h' tk r ws v, s.heap.StaysIn h' → h'.get? r = some (W.listOf (List.toArray ws) v) → IntsAre ws (digs x) → s.heap.get? r = none → Q (.ref r) { s with heap := h', toks := tk }) :
  wpAny (model PySem.Challenge.rw_hn0001_01.row.prog w) (ktrTop dp un gd cn cs L a ccd cl outer) (call (.ref 21) [.int (x : Int) tX, .int 1 tK]) Q E s := by
  revert X
  k_fill
  intro X
  refine wpAny_call ?_
  w_top off
  k_dflt (walk_at "mine enterC")
  rename Heap.StaysIn h₀ _ => st1
  have CH' := CH.keeps st1
  walk_at "mine stepsD"
  rename Fr _ _ _ _ => F1
  rename News _ _ _ _ => N1
  obtain ⟨hb1, hb2, hb3⟩ := blen_facts hx1
  have e1 : ((Builtin.Int.intBits (x : Int) : Int) + 1 - 1).fdiv 1 = (Builtin.Int.intBits (x : Int) : Int) := by rw [Int.fdiv_eq_ediv_of_nonneg _ (by decide)]; omega
  rw [e1]
  generalize hnb : Builtin.Int.intBits (x : Int) = nb at hb1 hb2 hb3 ⊢
  refine KM.mul F1 N1 (isList_of N1 (.head _)) (.cons 0 _ .nil) (by omega) (by omega) (by simp only [List.length_cons, List.length_nil, Int.toNat_natCast]; omega) ?_
  intro D h2 F2 N2 lt2 hiD _ _ _ _ _
  rw [Int.toNat_natCast] at N2 hiD
  generalize hV : (List.replicate nb [Value.int 0 _]).flatten = vD at N2 hiD
  rw [flat_zero] at hiD
  have hsz : (List.toArray vD).size = nb := by rw [List.size_toArray, hiD.length, List.length_replicate]
  k_lt lt2
  clear F1 N1
  walk_at "mine stepsD"
  · rename ¬ _ = _ => hne
    rename Fr _ _ _ _ => F1
    rename News _ _ _ _ => N1
    rename Below _ _ _ _ => B1
    rename Frag.In _ _ => X1
    rename Top _ _ _ _ _ _ => T1
    have zD := N1 _ (.tail _ (.head _))
    have N6 := news_pickH N1
    have hdg : put (List.replicate nb 0) 0 x nb = digs x := by unfold digs; rw [hnb]
    k_dflt (refine' i2d_inner w (hI := rfl) ?hoc ?hq ?hoI ?hoN ?hoD CH' ?a1 ?a2 ?a3 ?a4 ?a5 nb (x := x) (lo := 0) (hi := nb) (ns := List.replicate nb 0) (vs := vD) (dp := dp + 1) (un := un + 3) (by omega) (by omega) (by rw [List.length_replicate]; omega) (by rw [List.length_replicate]; omega) hb2 hiD B1 F1 X1 T1 (by rfl) (by omega) (by omega) N6 ?hQ)
    case hoc => assumption
    case hq => assumption
    case hoI => assumption
    case hoN => assumption
    case hoD => assumption
    case a1 => refine neN ?_; omega
    case a2 => refine neN ?_; omega
    case a3 => refine neN ?_; omega
    case a4 => refine neN ?_; omega
    case a5 => refine neN ?_; omega
    case hQ =>
      intro h3 tk3 vs3 k3 e3 hv3
      have F3 := fr_at F1 k3 zD.2.1 zD.2.2
      have N3 := news_offH N1 k3 (neN (by omega)) (neN (by omega)) (neN (by omega)) (neN (by omega)) (neN (by omega)) (neN (by omega))
      have kk : s.heap.StaysIn h3 := fun b o e => by
        by_cases hb : b ∈ [(16 : Addr), c1]
        · have hb' := hb
          rcases List.mem_cons.mp hb with q | q
          · subst q
            rw [(N _ (.head _)).1] at e
            rw [← e]; exact (N3 _ (.tail _ (.tail _ (.tail _ (.tail _ (.head _)))))).1
          · rw [List.mem_singleton.mp q] at e ⊢
            rw [(N _ (.tail _ (.head _))).1] at e
            rw [← e]; exact (N3 _ (.tail _ (.tail _ (.tail _ (.tail _ (.tail _ (.head _))))))).1
        · have e' : (gnd s.heap [(16, tabObj #[rawInt 5, rawInt 4, .ref c1]), (c1, oc1)]).get? b = some o := hideAll_get _ e hb
          exact k3 b o (fun q => by rw [q, zD.2.2] at e'; cases e') (F1.keep b o e')
      rw [hdg] at hv3
      clear F1 N1
      walk_at "mine stepsD"
      exact hQ _ _ _ _ _ kk e3 hv3 (fresh_gnd zD.2.2 (by simp only [List.map_cons, List.map_nil, List.mem_cons, List.not_mem_nil, or_false, not_or]; exact ⟨neN (by omega), neN (by omega)⟩))
  · rename (_ : Int) = 0 => hx0
    rename Fr _ _ _ _ => F1
    rename News _ _ _ _ => N1
    have zD := N1 _ (.tail _ (.head _))
    have hnb0 : nb = 0 := hb3.mp (by omega)
    have hx00 : x = 0 := by omega
    subst hx00
    have hdg : List.replicate nb (0 : Int) = digs 0 := by rw [hnb0]; rfl
    rw [hdg] at hiD
    have kk := stays_of N F1 fun p hp => (N1 p (List.mem_append_right [_, _, _, _, _, _] hp)).1
    exact hQ _ _ _ _ _ kk zD.1 hiD (fresh_gnd zD.2.2 (by simp only [List.map_cons, List.map_nil, List.mem_cons, List.not_mem_nil, or_false, not_or]; exact ⟨neN (by omega), neN (by omega)⟩))
end Mine
end
section
open PySem PySem.W PyProof.Rows PySem.Calls
set_option maxRecDepth 100000
namespace Mine
local macro_rules | `(tactic| walk_at "mine enter") => `(tactic| (refine' call_raw ?k1 ?k2 ?k3 ?k4 ?k5 ?kA ?kF ?kK ?k6 ?k7 ?k8 ?k9 ?kB ?_ ?c2 ?c3 ?c4 ?c5; (case kA => exact rfl); (case kF => exact rfl); (case kK => assumption); (case k1 => k_asm); (case k2 => k_asm); (case k3 => k_asm); (case k4 => k_asm); (case k5 => k_asm); (case k6 => k_is); (case k7 => k_is); (case k8 => ktr_room); (case k9 => exact BindsTo.of_eq rfl); (case c5 => decide); (case kB => exact locs rfl); (case c2 => exact rfl); (case c3 => exact rfl); (case c4 => exact rfl); k_whole; intro L' h' tk' FG' F' N' B' X' T' st' lt'; (try k_lt lt'); (try dsimp only); (try k_lift B'); (try k_fold)))
local macro_rules | `(tactic| walk_at "mine steps") => `(tactic| repeat' (first | (k_unfold; (try dsimp only)) | ((fail_if_success (with_reducible show wpAny _ _ (pyIter (Value.ref _)) _ _ _)); (fail_if_success (with_reducible show InvEndN _ _ _ _ _ _ _)); (fail_if_success (with_reducible show UnrEnd _ _ _ _ _ _ _)); (fail_if_success (with_reducible show _ ∧ Keeps _ _)); (fail_if_success (with_reducible show ∃ _, _)); (fail_if_success (with_reducible show wpAny _ _ (exec (Stmt.Assign _ (PySem.Expr.ListComp _ _ _ _) _) _) _ _ _)); (fail_if_success (with_reducible show wpAny _ _ (execs (Stmt.Assign [PySem.Expr.Tuple _ _ _] (PySem.Expr.Tuple _ _ _) _ :: _) _) _ _ _)); (fail_if_success (with_reducible show wpAny _ _ (subscriptTail _ (PySem.Expr.Slice _ _ _ _) _ _) _ _ _)); (fail_if_success (with_reducible show wpAny _ _ (binaryOp Operator.Add (Value.ref _) (Value.ref _)) _ _ _)); (fail_if_success (with_reducible show wpAny _ _ (PySem.call (Value.ref _) _ _) _ _ _)); (fail_if_success (with_reducible show wpAny _ _ (eval (Expr.ListComp _ _ _ _) _) _ _ _)); first | walk1 | (dsimp only; walk1)) | fail "no step"))
local macro_rules | `(tactic| walk_at "execs cons") => `(tactic| ((with_reducible refine wpAny_execs_cons ?_); try dsimp only))
local macro_rules | `(tactic| walk_at "execs nil") => `(tactic| (with_reducible refine wpAny_execs_nil ?_))
local macro_rules | `(tactic| k_all) => `(tactic| assumption)
local macro_rules | `(tactic| walk_at "mine enterC") => `(tactic| (refine' call_rawC ?k1 ?k2 ?k3 ?k4 ?k5 ?kA ?kF ?kK ?k6 ?k7 ?k8 ?k9 ?kB ?kD ?_ ?c2 ?c3 ?c4; (case kA => exact rfl); (case kF => exact rfl); (case kK => assumption); (case k1 => k_asm); (case k2 => k_asm); (case k3 => k_asm); (case k4 => k_asm); (case k5 => k_asm); (case k6 => k_is); (case k7 => k_is); (case k8 => ktr_room); (case k9 => exact BindsTo.of_eq rfl); (case kB => exact rfl); (case kD => decide +kernel); (case c2 => exact rfl); (case c3 => exact rfl); (case c4 => exact rfl); k_whole; intro L' h' tk' cells' FG' F' N' Y' B' X' T' st' lt'; (try k_lt lt'); k_cells Y'; (try simp only [List.cons_append, List.nil_append] at N'); (try dsimp only); (try k_lift B'); (try k_fold)))
local macro_rules | `(tactic| walk_at "mine stepsD") => `(tactic| repeat' (first | (k_unfold; (try dsimp only)) | ((fail_if_success (with_reducible show wpAny _ _ (pyIter (Value.ref _)) _ _ _)); (fail_if_success (with_reducible show InvEndN _ _ _ _ _ _ _)); (fail_if_success (with_reducible show UnrEnd _ _ _ _ _ _ _)); (fail_if_success (with_reducible show _ ∧ Keeps _ _)); (fail_if_success (with_reducible show ∃ _, _)); (fail_if_success (with_reducible show wpAny _ _ (exec (Stmt.Assign _ (PySem.Expr.ListComp _ _ _ _) _) _) _ _ _)); (fail_if_success (with_reducible show wpAny _ _ (execs (Stmt.Assign [PySem.Expr.Tuple _ _ _] (PySem.Expr.Tuple _ _ _) _ :: _) _) _ _ _)); (fail_if_success (with_reducible show wpAny _ _ (subscriptTail _ (PySem.Expr.Slice _ _ _ _) _ _) _ _ _)); (fail_if_success (with_reducible show wpAny _ _ (binaryOp Operator.Add (Value.ref _) (Value.ref _)) _ _ _)); (fail_if_success (with_reducible show wpAny _ _ (PySem.call (Value.ref _) _ _) _ _ _)); (fail_if_success (with_reducible show wpAny _ _ (eval (Expr.ListComp _ _ _ _) _) _ _ _)); (try dsimp only); walk1) | fail "no step"))
local macro_rules | `(tactic| walk_at "mine enterN") => `(tactic| (refine' call_rawN ?k1 ?k2 ?k3 ?k4 ?k5 ?kA ?kF ?kK ?k6 ?k7 ?k8 ?k9 ?kB ?_ ?c2 ?c3 ?c4 ?c5; (case kA => exact rfl); (case kF => exact rfl); (case kK => assumption); (case k1 => k_asm); (case k2 => k_asm); (case k3 => k_asm); (case k4 => k_asm); (case k5 => k_asm); (case k6 => k_mem); (case k7 => exact codeRec_news (by k_asm) (by k_mem) (by assumption) (by assumption)); (case k8 => ktr_room); (case k9 => exact BindsTo.of_eq rfl); (case c5 => decide); (case kB => exact locs rfl); (case c2 => exact rfl); (case c3 => exact rfl); (case c4 => exact rfl); k_whole; intro L' h' tk' FG' F' N' B' X' T' st' lt'; (try k_lt lt'); (try dsimp only); (try k_lift B'); (try k_fold)))
local macro_rules | `(tactic| walk_at "subscriptTail Name Name ref int") => `(tactic| (k_here; (with_unfolding_all refine' item_ints ?k1 ?k2 ?k3 ?k4 ?k5 ?_ ?k6; (case k1 => first | exact is_list_of (by with_reducible assumption) (by with_reducible assumption) | exact isList_of (by with_reducible assumption) (by k_mem)); (case k2 => with_reducible assumption); (case k3 => omega); (case k4 => omega); (case k5 => omega); (case k6 => with_unfolding_all rfl); k_whole); intro tI))
local macro_rules | `(tactic| walk_at "call builtin:len") => `(tactic| (k_here; (with_reducible show wpAny _ _ (PySem.call (Value.builtin _) [Value.ref _]) _ _ _); k_dflt (refine' len_known ?k1 ?k2 ?k3 ?k4 ?_; (case k1 => k_asm); (case k2 => k_mem); (case k3 => first | with_reducible assumption | exact IntsAre.length (by with_reducible assumption)); (case k4 => omega); k_whole)))
local macro_rules | `(tactic| walk_at "exec For Name Call cons nil") => `(tactic| (k_here; (rename Fr _ _ _ _ => lF'); (with_unfolding_all refine' For_invVF (hE := ?kE) lF' ?k1 ?k2 ?_; (case kE => first | with_reducible assumption | passes_own); (case k1 => exact rfl); (case k2 => exact rfl); k_whole)))
local macro_rules | `(tactic| walk_at "exec For Name List cons nil") => `(tactic| (k_here; (rename Fr _ _ _ _ => lF'); (with_unfolding_all refine' For_invVF (hE := ?kE) lF' ?k1 ?k2 ?_; (case kE => first | with_reducible assumption | passes_own); (case k1 => exact rfl); (case k2 => exact rfl); k_whole)))
noncomputable def corner (x : Nat) : List Int := (digs x ++ [0, 0, 0]).take 3
theorem digs_len {x : Nat} (h : x < 256) : (digs x).length ≤ 8 := by
  unfold digs
  rw [put_len, List.length_replicate]
  exact (blen_facts h).1
set_option maxHeartbeats 8000000 in
theorem corner_spec (w : World) {p : Program} {loose : List Str} {mean : ExcName → Option Value} {mg mb : Str → Option Value}
  {dp un : Nat} {gd : Option (List Code)} {cn : Str} {cs : Scope} {a : Addr} {ccd : Value} {cl : List (Str × Addr)} {outer : List Env} {A₀ : Around} {base h₀ : Heap} {L : Addr} {m : Str → Option Value} {s : Shared} {Q E : Value → Shared → Prop}
  (B : Below A₀ base outer h₀) (F : Fr h₀ L s.heap m) (X : (hd.heap_39 w.params).In h₀) (T : Top p loose mean mg mb h₀) (hke : cs.kind = .function)
  (hd : dp + 20 < recursionLimit) (hu : un + 100 < cLine)
  {c1 : Addr} {oc1 : Obj} {vs1 : Array Value} {tq1 : Tok} (N : News h₀ L s.heap [(16, tabObj #[rawInt 5, rawInt 4, .ref c1]), (c1, oc1)]) (hoc1 : oc1.data = .fields vs1) (hq1 : vs1[1]? = some (.str (Str.ofString "_int2digits.<locals>.inner") tq1)) (CH : CodeHd h₀ 20 16)
  {x : Nat} {tX : Tok} (hx1 : x < 256)
  (hQ : ∀ h' tk r ws v, s.heap.StaysIn h' → h'.get? r = some (W.listOf (List.toArray ws) v) → IntsAre ws (corner x) → s.heap.get? r = none → Q (.ref r) { s with heap := h', toks := tk }) :
  wpAny (model PySem.Challenge.rw_hn0001_01.row.prog w) (ktrTop dp un gd cn cs L a ccd cl outer) (call (.ref 49) [.int (x : Int) tX]) Q E s := by
  revert X
  k_fill
  intro X
  refine wpAny_call ?_
  w_top off
  k_dflt (walk_at "mine enter")
  rename Heap.StaysIn h₀ _ => st1
  have CH' := CH.keeps st1
  walk_at "mine stepsD"
  rename Fr _ _ _ _ => F1
  rename News _ _ _ _ => N1
  rename Below _ _ _ _ => B1
  rename Frag.In _ _ => X1
  rename Top _ _ _ _ _ _ => T1
  refine i2d_hit w B1 F1 X1 T1 (by rfl) (dp := dp + 1) (un := un + 3) (by omega) (by omega) N1 hoc1 hq1 CH' hx1 ?_
  intro h1 tk1 r1 ws1 v1 s1 e1 hv1 f1
  obtain ⟨F2, N2, n2, l2⟩ := grow F1 N1 s1 e1 f1
  simp only [AllNe, and_true] at n2
  clear F1 N1
  walk_at "mine stepsD"
  rename Fr _ _ _ _ => F3
  rename News _ _ _ _ => N3
  have hle := digs_len hx1
  refine kmk_add_ints F3 N3 (isList_of N3 (.tail _ (.head _))) (isList_of N3 (.head _)) hv1 (.cons 0 _ (.cons 0 _ (.cons 0 _ .nil))) ?_ (line1000 (by simp only [List.length_cons, List.length_nil]; omega))
  intro D us h4 F4 N4 lt4 hI4
  k_lt lt4
  clear F3 N3
  walk_at "mine stepsD"
  rename Fr _ _ _ _ => F5
  rename News _ _ _ _ => N5
  have hl5 : (digs x ++ [0, 0, 0]).length ≤ 1000 := by rw [List.length_append]; simp only [List.length_cons, List.length_nil]; omega
  k_dflt (refine kba_turn (value' := PySem.Expr.Name (PySem.Str.ofString "_") ⟨0, 0, 0, 0⟩) (fun _ => rfl) ?_)
  k_dflt (refine' kmk_slice_ints (s := { heap := h4, gens := s.gens, drawn := s.drawn, toks := _, os := s.os }) ?qF ?qN ?ql ?qp ?qq ?qi ?qm ?qc ?_ ?qs ?qt ?qz; (case qF => exact F5); (case qN => exact N5); (case ql => exact isList_of N5 (.head _)); (case qp => exact IsPart.none); (case qq => exact IsPart.int _ _); (case qi => exact hI4); (case qm => exact kmk_upto hI4 (by decide)); (case qc => exact rfl); (case qs => with_unfolding_all rfl); (case qt => intro _; with_unfolding_all rfl); (case qz => rw [List.size_toArray, hI4.length]; exact line1000 hl5))
  intro D6 ws6 h6 F6 N6 lt6 hI6 _ _
  have e6 : s.heap.get? D6 = none := fresh_gnd (N6 _ (.head _)).2.2 (by
    k_lt lt6
    simp only [List.map_cons, List.map_nil, List.mem_cons, List.not_mem_nil, or_false, not_or]; exact ⟨neN (by omega), neN (by omega)⟩)
  exact hQ _ _ _ _ _ (stays_of N F6 fun p hp => (N6 p (List.mem_append_right [_, _, _, _] hp)).1) (N6 _ (.head _)).1 hI6 e6
end Mine
end
section
open PySem PySem.W PyProof.Rows PySem.Calls
set_option maxRecDepth 100000
namespace Mine
local macro_rules | `(tactic| walk_at "mine enter") => `(tactic| (refine' call_raw ?k1 ?k2 ?k3 ?k4 ?k5 ?kA ?kF ?kK ?k6 ?k7 ?k8 ?k9 ?kB ?_ ?c2 ?c3 ?c4 ?c5; (case kA => exact rfl); (case kF => exact rfl); (case kK => assumption); (case k1 => k_asm); (case k2 => k_asm); (case k3 => k_asm); (case k4 => k_asm); (case k5 => k_asm); (case k6 => k_is); (case k7 => k_is); (case k8 => ktr_room); (case k9 => exact BindsTo.of_eq rfl); (case c5 => decide); (case kB => exact locs rfl); (case c2 => exact rfl); (case c3 => exact rfl); (case c4 => exact rfl); k_whole; intro L' h' tk' FG' F' N' B' X' T' st' lt'; (try k_lt lt'); (try dsimp only); (try k_lift B'); (try k_fold)))
local macro_rules | `(tactic| walk_at "mine steps") => `(tactic| repeat' (first | (k_unfold; (try dsimp only)) | ((fail_if_success (with_reducible show wpAny _ _ (pyIter (Value.ref _)) _ _ _)); (fail_if_success (with_reducible show InvEndN _ _ _ _ _ _ _)); (fail_if_success (with_reducible show UnrEnd _ _ _ _ _ _ _)); (fail_if_success (with_reducible show _ ∧ Keeps _ _)); (fail_if_success (with_reducible show ∃ _, _)); (fail_if_success (with_reducible show wpAny _ _ (exec (Stmt.Assign _ (PySem.Expr.ListComp _ _ _ _) _) _) _ _ _)); (fail_if_success (with_reducible show wpAny _ _ (execs (Stmt.Assign [PySem.Expr.Tuple _ _ _] (PySem.Expr.Tuple _ _ _) _ :: _) _) _ _ _)); (fail_if_success (with_reducible show wpAny _ _ (subscriptTail _ (PySem.Expr.Slice _ _ _ _) _ _) _ _ _)); (fail_if_success (with_reducible show wpAny _ _ (binaryOp Operator.Add (Value.ref _) (Value.ref _)) _ _ _)); (fail_if_success (with_reducible show wpAny _ _ (PySem.call (Value.ref _) _ _) _ _ _)); (fail_if_success (with_reducible show wpAny _ _ (eval (Expr.ListComp _ _ _ _) _) _ _ _)); first | walk1 | (dsimp only; walk1)) | fail "no step"))
local macro_rules | `(tactic| walk_at "execs cons") => `(tactic| ((with_reducible refine wpAny_execs_cons ?_); try dsimp only))
local macro_rules | `(tactic| walk_at "execs nil") => `(tactic| (with_reducible refine wpAny_execs_nil ?_))
local macro_rules | `(tactic| k_all) => `(tactic| assumption)
local macro_rules | `(tactic| walk_at "mine enterC") => `(tactic| (refine' call_rawC ?k1 ?k2 ?k3 ?k4 ?k5 ?kA ?kF ?kK ?k6 ?k7 ?k8 ?k9 ?kB ?kD ?_ ?c2 ?c3 ?c4; (case kA => exact rfl); (case kF => exact rfl); (case kK => assumption); (case k1 => k_asm); (case k2 => k_asm); (case k3 => k_asm); (case k4 => k_asm); (case k5 => k_asm); (case k6 => k_is); (case k7 => k_is); (case k8 => ktr_room); (case k9 => exact BindsTo.of_eq rfl); (case kB => exact rfl); (case kD => decide +kernel); (case c2 => exact rfl); (case c3 => exact rfl); (case c4 => exact rfl); k_whole; intro L' h' tk' cells' FG' F' N' Y' B' X' T' st' lt'; (try k_lt lt'); k_cells Y'; (try simp only [List.cons_append, List.nil_append] at N'); (try dsimp only); (try k_lift B'); (try k_fold)))
local macro_rules | `(tactic| walk_at "mine stepsD") => `(tactic| repeat' (first | (k_unfold; (try dsimp only)) | ((fail_if_success (with_reducible show wpAny _ _ (pyIter (Value.ref _)) _ _ _)); (fail_if_success (with_reducible show InvEndN _ _ _ _ _ _ _)); (fail_if_success (with_reducible show UnrEnd _ _ _ _ _ _ _)); (fail_if_success (with_reducible show _ ∧ Keeps _ _)); (fail_if_success (with_reducible show ∃ _, _)); (fail_if_success (with_reducible show wpAny _ _ (exec (Stmt.Assign _ (PySem.Expr.ListComp _ _ _ _) _) _) _ _ _)); (fail_if_success (with_reducible show wpAny _ _ (execs (Stmt.Assign [PySem.Expr.Tuple _ _ _] (PySem.Expr.Tuple _ _ _) _ :: _) _) _ _ _)); (fail_if_success (with_reducible show wpAny _ _ (subscriptTail _ (PySem.Expr.Slice _ _ _ _) _ _) _ _ _)); (fail_if_success (with_reducible show wpAny _ _ (binaryOp Operator.Add (Value.ref _) (Value.ref _)) _ _ _)); (fail_if_success (with_reducible show wpAny _ _ (PySem.call (Value.ref _) _ _) _ _ _)); (fail_if_success (with_reducible show wpAny _ _ (eval (Expr.ListComp _ _ _ _) _) _ _ _)); (try dsimp only); walk1) | fail "no step"))
local macro_rules | `(tactic| walk_at "mine enterN") => `(tactic| (refine' call_rawN ?k1 ?k2 ?k3 ?k4 ?k5 ?kA ?kF ?kK ?k6 ?k7 ?k8 ?k9 ?kB ?_ ?c2 ?c3 ?c4 ?c5; (case kA => exact rfl); (case kF => exact rfl); (case kK => assumption); (case k1 => k_asm); (case k2 => k_asm); (case k3 => k_asm); (case k4 => k_asm); (case k5 => k_asm); (case k6 => k_mem); (case k7 => exact codeRec_news (by k_asm) (by k_mem) (by assumption) (by assumption)); (case k8 => ktr_room); (case k9 => exact BindsTo.of_eq rfl); (case c5 => decide); (case kB => exact locs rfl); (case c2 => exact rfl); (case c3 => exact rfl); (case c4 => exact rfl); k_whole; intro L' h' tk' FG' F' N' B' X' T' st' lt'; (try k_lt lt'); (try dsimp only); (try k_lift B'); (try k_fold)))
local macro_rules | `(tactic| walk_at "subscriptTail Name Name ref int") => `(tactic| (k_here; (with_unfolding_all refine' item_ints ?k1 ?k2 ?k3 ?k4 ?k5 ?_ ?k6; (case k1 => first | exact is_list_of (by with_reducible assumption) (by with_reducible assumption) | exact isList_of (by with_reducible assumption) (by k_mem)); (case k2 => with_reducible assumption); (case k3 => omega); (case k4 => omega); (case k5 => omega); (case k6 => with_unfolding_all rfl); k_whole); intro tI))
local macro_rules | `(tactic| walk_at "call builtin:len") => `(tactic| (k_here; (with_reducible show wpAny _ _ (PySem.call (Value.builtin _) [Value.ref _]) _ _ _); k_dflt (refine' len_known ?k1 ?k2 ?k3 ?k4 ?_; (case k1 => k_asm); (case k2 => k_mem); (case k3 => first | with_reducible assumption | exact IntsAre.length (by with_reducible assumption)); (case k4 => omega); k_whole)))
local macro_rules | `(tactic| walk_at "exec For Name Call cons nil") => `(tactic| (k_here; (rename Fr _ _ _ _ => lF'); (with_unfolding_all refine' For_invVF (hE := ?kE) lF' ?k1 ?k2 ?_; (case kE => first | with_reducible assumption | passes_own); (case k1 => exact rfl); (case k2 => exact rfl); k_whole)))
local macro_rules | `(tactic| walk_at "exec For Name List cons nil") => `(tactic| (k_here; (rename Fr _ _ _ _ => lF'); (with_unfolding_all refine' For_invVF (hE := ?kE) lF' ?k1 ?k2 ?_; (case kE => first | with_reducible assumption | passes_own); (case k1 => exact rfl); (case k2 => exact rfl); k_whole)))
noncomputable def Emp (w : World) (d : Addr) (o : Obj) : Prop := (d == sysModules) = false ∧ o.IsDictOf (strKind PySem.Challenge.rw_hn0001_01.row.prog w) [] ∧ PyProof.V.FlatPairs PyData.str ([] : List (Str × Value)) [] ∧ o.IsDictOf (intKind PySem.Challenge.rw_hn0001_01.row.prog w) [] ∧ PyProof.V.FlatPairs PyData.int ([] : List (Int × Value)) []
set_option maxHeartbeats 8000000 in
theorem callers_spec (w : World) {p : Program} {loose : List Str} {mean : ExcName → Option Value} {mg mb : Str → Option Value}
  {dp un : Nat} {gd : Option (List Code)} {cn : Str} {cs : Scope} {a : Addr} {ccd : Value} {cl : List (Str × Addr)} {outer : List Env} {A₀ : Around} {base h₀ : Heap} {L : Addr} {m : Str → Option Value} {s : Shared} {Q E : Value → Shared → Prop}
  (B : Below A₀ base outer h₀) (F : Fr h₀ L s.heap m) (X : (hd.heap_39 w.params).In h₀) (T : Top p loose mean mg mb h₀) (hke : cs.kind = .function)
  (hd : dp + 20 < recursionLimit) (hu : un + 100 < cLine)
  {d1 d2 : Addr} {o1 o2 : Obj} (N : News h₀ L s.heap [(d1, o1), (d2, o2)]) (E1 : Emp w d1 o1) (E2 : Emp w d2 o2)
  (hQ : ∀ h' tk r o, s.heap.StaysIn h' → h'.get? r = some o → Emp w r o → s.heap.get? r = none → Q (.ref r) { s with heap := h', toks := tk }) :
  wpAny (model PySem.Challenge.rw_hn0001_01.row.prog w) (ktrTop dp un gd cn cs L a ccd cl outer) (call (.ref 42) [.ref d1, .ref d2]) Q E s := by
  revert X
  k_fill
  intro X
  refine wpAny_call ?_
  first | k_dflt (walk_at "mine enter") | k_dflt (walk_at "mine enterC")
  obtain ⟨lo1, hs1, fs1, hi1, fi1⟩ := E1
  obtain ⟨lo2, hs2, fs2, hi2, fi2⟩ := E2
  w_top off
  walk_at "mine stepsD"
  rename Fr _ _ _ _ => F1
  rename News _ _ _ _ => N1
  exact hQ _ _ _ _ (stays_of N F1 fun p hp => (N1 p (.tail _ hp)).1) (N1 _ (.head _)).1 ⟨by assumption, by assumption, .nil, by assumption, .nil⟩ (fresh_gnd (N1 _ (.head _)).2.2 (by
    simp only [List.map_cons, List.map_nil, List.mem_cons, List.not_mem_nil, or_false, not_or]; exact ⟨neN (by omega), neN (by omega)⟩))
end Mine
end
section
open PySem PySem.W PyProof.Rows PySem.Calls
set_option maxRecDepth 100000
namespace Mine
local macro_rules | `(tactic| walk_at "mine enter") => `(tactic| (refine' call_raw ?k1 ?k2 ?k3 ?k4 ?k5 ?kA ?kF ?kK ?k6 ?k7 ?k8 ?k9 ?kB ?_ ?c2 ?c3 ?c4 ?c5; (case kA => exact rfl); (case kF => exact rfl); (case kK => assumption); (case k1 => k_asm); (case k2 => k_asm); (case k3 => k_asm); (case k4 => k_asm); (case k5 => k_asm); (case k6 => k_is); (case k7 => k_is); (case k8 => ktr_room); (case k9 => exact BindsTo.of_eq rfl); (case c5 => decide); (case kB => exact locs rfl); (case c2 => exact rfl); (case c3 => exact rfl); (case c4 => exact rfl); k_whole; intro L' h' tk' FG' F' N' B' X' T' st' lt'; (try k_lt lt'); (try dsimp only); (try k_lift B'); (try k_fold)))
local macro_rules | `(tactic| walk_at "mine steps") => `(tactic| repeat' (first | (k_unfold; (try dsimp only)) | ((fail_if_success (with_reducible show wpAny _ _ (pyIter (Value.ref _)) _ _ _)); (fail_if_success (with_reducible show InvEndN _ _ _ _ _ _ _)); (fail_if_success (with_reducible show UnrEnd _ _ _ _ _ _ _)); (fail_if_success (with_reducible show _ ∧ Keeps _ _)); (fail_if_success (with_reducible show ∃ _, _)); (fail_if_success (with_reducible show wpAny _ _ (exec (Stmt.Assign _ (PySem.Expr.ListComp _ _ _ _) _) _) _ _ _)); (fail_if_success (with_reducible show wpAny _ _ (execs (Stmt.Assign [PySem.Expr.Tuple _ _ _] (PySem.Expr.Tuple _ _ _) _ :: _) _) _ _ _)); (fail_if_success (with_reducible show wpAny _ _ (subscriptTail _ (PySem.Expr.Slice _ _ _ _) _ _) _ _ _)); (fail_if_success (with_reducible show wpAny _ _ (binaryOp Operator.Add (Value.ref _) (Value.ref _)) _ _ _)); (fail_if_success (with_reducible show wpAny _ _ (PySem.call (Value.ref _) _ _) _ _ _)); (fail_if_success (with_reducible show wpAny _ _ (eval (Expr.ListComp _ _ _ _) _) _ _ _)); first | walk1 | (dsimp only; walk1)) | fail "no step"))
local macro_rules | `(tactic| walk_at "execs cons") => `(tactic| ((with_reducible refine wpAny_execs_cons ?_); try dsimp only))
local macro_rules | `(tactic| walk_at "execs nil") => `(tactic| (with_reducible refine wpAny_execs_nil ?_))
local macro_rules | `(tactic| k_all) => `(tactic| assumption)
local macro_rules | `(tactic| walk_at "mine enterC") => `(tactic| (refine' call_rawC ?k1 ?k2 ?k3 ?k4 ?k5 ?kA ?kF ?kK ?k6 ?k7 ?k8 ?k9 ?kB ?kD ?_ ?c2 ?c3 ?c4; (case kA => exact rfl); (case kF => exact rfl); (case kK => assumption); (case k1 => k_asm); (case k2 => k_asm); (case k3 => k_asm); (case k4 => k_asm); (case k5 => k_asm); (case k6 => k_is); (case k7 => k_is); (case k8 => ktr_room); (case k9 => exact BindsTo.of_eq rfl); (case kB => exact rfl); (case kD => decide +kernel); (case c2 => exact rfl); (case c3 => exact rfl); (case c4 => exact rfl); k_whole; intro L' h' tk' cells' FG' F' N' Y' B' X' T' st' lt'; (try k_lt lt'); k_cells Y'; (try simp only [List.cons_append, List.nil_append] at N'); (try dsimp only); (try k_lift B'); (try k_fold)))
local macro_rules | `(tactic| walk_at "mine stepsD") => `(tactic| repeat' (first | (k_unfold; (try dsimp only)) | ((fail_if_success (with_reducible show wpAny _ _ (pyIter (Value.ref _)) _ _ _)); (fail_if_success (with_reducible show InvEndN _ _ _ _ _ _ _)); (fail_if_success (with_reducible show UnrEnd _ _ _ _ _ _ _)); (fail_if_success (with_reducible show _ ∧ Keeps _ _)); (fail_if_success (with_reducible show ∃ _, _)); (fail_if_success (with_reducible show wpAny _ _ (exec (Stmt.Assign _ (PySem.Expr.ListComp _ _ _ _) _) _) _ _ _)); (fail_if_success (with_reducible show wpAny _ _ (execs (Stmt.Assign [PySem.Expr.Tuple _ _ _] (PySem.Expr.Tuple _ _ _) _ :: _) _) _ _ _)); (fail_if_success (with_reducible show wpAny _ _ (subscriptTail _ (PySem.Expr.Slice _ _ _ _) _ _) _ _ _)); (fail_if_success (with_reducible show wpAny _ _ (binaryOp Operator.Add (Value.ref _) (Value.ref _)) _ _ _)); (fail_if_success (with_reducible show wpAny _ _ (PySem.call (Value.ref _) _ _) _ _ _)); (fail_if_success (with_reducible show wpAny _ _ (eval (Expr.ListComp _ _ _ _) _) _ _ _)); (try dsimp only); walk1) | fail "no step"))
local macro_rules | `(tactic| walk_at "mine enterN") => `(tactic| (refine' call_rawN ?k1 ?k2 ?k3 ?k4 ?k5 ?kA ?kF ?kK ?k6 ?k7 ?k8 ?k9 ?kB ?_ ?c2 ?c3 ?c4 ?c5; (case kA => exact rfl); (case kF => exact rfl); (case kK => assumption); (case k1 => k_asm); (case k2 => k_asm); (case k3 => k_asm); (case k4 => k_asm); (case k5 => k_asm); (case k6 => k_mem); (case k7 => exact codeRec_news (by k_asm) (by k_mem) (by assumption) (by assumption)); (case k8 => ktr_room); (case k9 => exact BindsTo.of_eq rfl); (case c5 => decide); (case kB => exact locs rfl); (case c2 => exact rfl); (case c3 => exact rfl); (case c4 => exact rfl); k_whole; intro L' h' tk' FG' F' N' B' X' T' st' lt'; (try k_lt lt'); (try dsimp only); (try k_lift B'); (try k_fold)))
local macro_rules | `(tactic| walk_at "subscriptTail Name Name ref int") => `(tactic| (k_here; (with_unfolding_all refine' item_ints ?k1 ?k2 ?k3 ?k4 ?k5 ?_ ?k6; (case k1 => first | exact is_list_of (by with_reducible assumption) (by with_reducible assumption) | exact isList_of (by with_reducible assumption) (by k_mem)); (case k2 => with_reducible assumption); (case k3 => omega); (case k4 => omega); (case k5 => omega); (case k6 => with_unfolding_all rfl); k_whole); intro tI))
local macro_rules | `(tactic| walk_at "call builtin:len") => `(tactic| (k_here; (with_reducible show wpAny _ _ (PySem.call (Value.builtin _) [Value.ref _]) _ _ _); k_dflt (refine' len_known ?k1 ?k2 ?k3 ?k4 ?_; (case k1 => k_asm); (case k2 => k_mem); (case k3 => first | with_reducible assumption | exact IntsAre.length (by with_reducible assumption)); (case k4 => omega); k_whole)))
local macro_rules | `(tactic| walk_at "exec For Name Call cons nil") => `(tactic| (k_here; (rename Fr _ _ _ _ => lF'); (with_unfolding_all refine' For_invVF (hE := ?kE) lF' ?k1 ?k2 ?_; (case kE => first | with_reducible assumption | passes_own); (case k1 => exact rfl); (case k2 => exact rfl); k_whole)))
local macro_rules | `(tactic| walk_at "exec For Name List cons nil") => `(tactic| (k_here; (rename Fr _ _ _ _ => lF'); (with_unfolding_all refine' For_invVF (hE := ?kE) lF' ?k1 ?k2 ?_; (case kE => first | with_reducible assumption | passes_own); (case k1 => exact rfl); (case k2 => exact rfl); k_whole)))
set_option maxHeartbeats 8000000 in
theorem stats_spec (w : World) {p : Program} {loose : List Str} {mean : ExcName → Option Value} {mg mb : Str → Option Value}
  {dp un : Nat} {gd : Option (List Code)} {cn : Str} {cs : Scope} {a : Addr} {ccd : Value} {cl : List (Str × Addr)} {outer : List Env} {A₀ : Around} {base h₀ : Heap} {L : Addr} {m : Str → Option Value} {s : Shared} {Q E : Value → Shared → Prop}
  (B : Below A₀ base outer h₀) (F : Fr h₀ L s.heap m) (X : (hd.heap_39 w.params).In h₀) (T : Top p loose mean mg mb h₀) (hke : cs.kind = .function)
  (hd : dp + 30 < recursionLimit) (hu : un + 200 < cLine)
  {t r d1 d2 : Addr} {o1 o2 : Obj} {c n z1 z2 x y v1 v2 : Int} {k1 k2 k3 k4 k5 k6 k7 k8 : Tok} {nt nr : Nat} (N : News h₀ L s.heap [(t, ⟨.type "tuple", none, .seq #[.int c k1, .int n k2, .int z1 k3, .int z2 k4, .ref d1] nt, #[]⟩), (r, ⟨.type "tuple", none, .seq #[.int x k5, .int y k6, .int v1 k7, .int v2 k8, .ref d2] nr, #[]⟩), (d1, o1), (d2, o2)]) (E1 : Emp w d1 o1) (E2 : Emp w d2 o2)
  (hQ : ∀ h' tk q d o u1 u2 u3 u4 , s.heap.StaysIn h' → h'.get? q = some ⟨.type "tuple", none, .seq #[.int (x + c) u1, .int (y + n) u2, .int (v1 + z1) u3, .int (v2 + z2) u4, .ref d], #[]⟩ → h'.get? d = some o → Emp w d o → s.heap.get? q = none → s.heap.get? d = none → @Ne Nat q d → Q (.ref q) { s with heap := h', toks := tk }) :
  wpAny (model PySem.Challenge.rw_hn0001_01.row.prog w) (ktrTop dp un gd cn cs L a ccd cl outer) (call (.ref 35) [.ref t, .ref r]) Q E s := by
  revert X
  k_fill
  intro X
  refine wpAny_call ?_
  w_top off
  k_dflt (walk_at "mine enter")
  walk_at "mine stepsD"
  rename Fr _ _ _ _ => F1
  rename News _ _ _ _ => N1
  rename Below _ _ _ _ => B1
  rename Frag.In _ _ => X1
  rename Top _ _ _ _ _ _ => T1
  refine callers_spec w B1 F1 X1 T1 (by rfl) (dp := dp + 1) (un := un + 3) (by omega) (by omega) (news_sub N1 fun p hp => .tail _ (.tail _ hp)) E1 E2 ?_
  intro h1 tk1 r1 or1 s1 e1 m1 f1
  obtain ⟨F2, N2, n2, l2⟩ := grow F1 N1 s1 e1 f1
  simp only [AllNe, and_true] at n2
  clear F1 N1
  walk_at "mine stepsD"
  rename Fr _ _ _ _ => F3
  rename News _ _ _ _ => N3
  exact hQ _ _ _ _ _ _ _ _ _ (stays_of N F3 fun p hp => (N3 p (.tail _ (.tail _ hp))).1) (N3 _ (.head _)).1 (N3 _ (.tail _ (.head _))).1 m1
    (fresh_gnd (N3 _ (.head _)).2.2 (by simp only [List.map_cons, List.map_nil, List.mem_cons, List.not_mem_nil, or_false, not_or]; exact ⟨neN (by omega), neN (by omega), neN (by omega), neN (by omega)⟩))
    (fresh_gnd (N3 _ (.tail _ (.head _))).2.2 (by simp only [List.map_cons, List.map_nil, List.mem_cons, List.not_mem_nil, or_false, not_or]; exact ⟨neN (by omega), neN (by omega), neN (by omega), neN (by omega)⟩)) (neN (by omega))
end Mine
end
section
open PySem PySem.W PyProof.Rows PySem.Calls
set_option maxRecDepth 100000
namespace Mine
local macro_rules | `(tactic| walk_at "mine enter") => `(tactic| (refine' call_raw ?k1 ?k2 ?k3 ?k4 ?k5 ?kA ?kF ?kK ?k6 ?k7 ?k8 ?k9 ?kB ?_ ?c2 ?c3 ?c4 ?c5; (case kA => exact rfl); (case kF => exact rfl); (case kK => assumption); (case k1 => k_asm); (case k2 => k_asm); (case k3 => k_asm); (case k4 => k_asm); (case k5 => k_asm); (case k6 => k_is); (case k7 => k_is); (case k8 => ktr_room); (case k9 => exact BindsTo.of_eq rfl); (case c5 => decide); (case kB => exact locs rfl); (case c2 => exact rfl); (case c3 => exact rfl); (case c4 => exact rfl); k_whole; intro L' h' tk' FG' F' N' B' X' T' st' lt'; (try k_lt lt'); (try dsimp only); (try k_lift B'); (try k_fold)))
local macro_rules | `(tactic| walk_at "mine steps") => `(tactic| repeat' (first | (k_unfold; (try dsimp only)) | ((fail_if_success (with_reducible show wpAny _ _ (pyIter (Value.ref _)) _ _ _)); (fail_if_success (with_reducible show InvEndN _ _ _ _ _ _ _)); (fail_if_success (with_reducible show UnrEnd _ _ _ _ _ _ _)); (fail_if_success (with_reducible show _ ∧ Keeps _ _)); (fail_if_success (with_reducible show ∃ _, _)); (fail_if_success (with_reducible show wpAny _ _ (exec (Stmt.Assign _ (PySem.Expr.ListComp _ _ _ _) _) _) _ _ _)); (fail_if_success (with_reducible show wpAny _ _ (execs (Stmt.Assign [PySem.Expr.Tuple _ _ _] (PySem.Expr.Tuple _ _ _) _ :: _) _) _ _ _)); (fail_if_success (with_reducible show wpAny _ _ (subscriptTail _ (PySem.Expr.Slice _ _ _ _) _ _) _ _ _)); (fail_if_success (with_reducible show wpAny _ _ (binaryOp Operator.Add (Value.ref _) (Value.ref _)) _ _ _)); (fail_if_success (with_reducible show wpAny _ _ (PySem.call (Value.ref _) _ _) _ _ _)); (fail_if_success (with_reducible show wpAny _ _ (eval (Expr.ListComp _ _ _ _) _) _ _ _)); first | walk1 | (dsimp only; walk1)) | fail "no step"))
local macro_rules | `(tactic| walk_at "execs cons") => `(tactic| ((with_reducible refine wpAny_execs_cons ?_); try dsimp only))
local macro_rules | `(tactic| walk_at "execs nil") => `(tactic| (with_reducible refine wpAny_execs_nil ?_))
local macro_rules | `(tactic| k_all) => `(tactic| assumption)
local macro_rules | `(tactic| walk_at "mine enterC") => `(tactic| (refine' call_rawC ?k1 ?k2 ?k3 ?k4 ?k5 ?kA ?kF ?kK ?k6 ?k7 ?k8 ?k9 ?kB ?kD ?_ ?c2 ?c3 ?c4; (case kA => exact rfl); (case kF => exact rfl); (case kK => assumption); (case k1 => k_asm); (case k2 => k_asm); (case k3 => k_asm); (case k4 => k_asm); (case k5 => k_asm); (case k6 => k_is); (case k7 => k_is); (case k8 => ktr_room); (case k9 => exact BindsTo.of_eq rfl); (case kB => exact rfl); (case kD => decide +kernel); (case c2 => exact rfl); (case c3 => exact rfl); (case c4 => exact rfl); k_whole; intro L' h' tk' cells' FG' F' N' Y' B' X' T' st' lt'; (try k_lt lt'); k_cells Y'; (try simp only [List.cons_append, List.nil_append] at N'); (try dsimp only); (try k_lift B'); (try k_fold)))
local macro_rules | `(tactic| walk_at "mine stepsD") => `(tactic| repeat' (first | (k_unfold; (try dsimp only)) | ((fail_if_success (with_reducible show wpAny _ _ (pyIter (Value.ref _)) _ _ _)); (fail_if_success (with_reducible show InvEndN _ _ _ _ _ _ _)); (fail_if_success (with_reducible show UnrEnd _ _ _ _ _ _ _)); (fail_if_success (with_reducible show _ ∧ Keeps _ _)); (fail_if_success (with_reducible show ∃ _, _)); (fail_if_success (with_reducible show wpAny _ _ (exec (Stmt.Assign _ (PySem.Expr.ListComp _ _ _ _) _) _) _ _ _)); (fail_if_success (with_reducible show wpAny _ _ (execs (Stmt.Assign [PySem.Expr.Tuple _ _ _] (PySem.Expr.Tuple _ _ _) _ :: _) _) _ _ _)); (fail_if_success (with_reducible show wpAny _ _ (subscriptTail _ (PySem.Expr.Slice _ _ _ _) _ _) _ _ _)); (fail_if_success (with_reducible show wpAny _ _ (binaryOp Operator.Add (Value.ref _) (Value.ref _)) _ _ _)); (fail_if_success (with_reducible show wpAny _ _ (PySem.call (Value.ref _) _ _) _ _ _)); (fail_if_success (with_reducible show wpAny _ _ (eval (Expr.ListComp _ _ _ _) _) _ _ _)); (try dsimp only); walk1) | fail "no step"))
local macro_rules | `(tactic| walk_at "mine enterN") => `(tactic| (refine' call_rawN ?k1 ?k2 ?k3 ?k4 ?k5 ?kA ?kF ?kK ?k6 ?k7 ?k8 ?k9 ?kB ?_ ?c2 ?c3 ?c4 ?c5; (case kA => exact rfl); (case kF => exact rfl); (case kK => assumption); (case k1 => k_asm); (case k2 => k_asm); (case k3 => k_asm); (case k4 => k_asm); (case k5 => k_asm); (case k6 => k_mem); (case k7 => exact codeRec_news (by k_asm) (by k_mem) (by assumption) (by assumption)); (case k8 => ktr_room); (case k9 => exact BindsTo.of_eq rfl); (case c5 => decide); (case kB => exact locs rfl); (case c2 => exact rfl); (case c3 => exact rfl); (case c4 => exact rfl); k_whole; intro L' h' tk' FG' F' N' B' X' T' st' lt'; (try k_lt lt'); (try dsimp only); (try k_lift B'); (try k_fold)))
local macro_rules | `(tactic| walk_at "subscriptTail Name Name ref int") => `(tactic| (k_here; (with_unfolding_all refine' item_ints ?k1 ?k2 ?k3 ?k4 ?k5 ?_ ?k6; (case k1 => first | exact is_list_of (by with_reducible assumption) (by with_reducible assumption) | exact isList_of (by with_reducible assumption) (by k_mem)); (case k2 => with_reducible assumption); (case k3 => omega); (case k4 => omega); (case k5 => omega); (case k6 => with_unfolding_all rfl); k_whole); intro tI))
local macro_rules | `(tactic| walk_at "call builtin:len") => `(tactic| (k_here; (with_reducible show wpAny _ _ (PySem.call (Value.builtin _) [Value.ref _]) _ _ _); k_dflt (refine' len_known ?k1 ?k2 ?k3 ?k4 ?_; (case k1 => k_asm); (case k2 => k_mem); (case k3 => first | with_reducible assumption | exact IntsAre.length (by with_reducible assumption)); (case k4 => omega); k_whole)))
local macro_rules | `(tactic| walk_at "exec For Name Call cons nil") => `(tactic| (k_here; (rename Fr _ _ _ _ => lF'); (with_unfolding_all refine' For_invVF (hE := ?kE) lF' ?k1 ?k2 ?_; (case kE => first | with_reducible assumption | passes_own); (case k1 => exact rfl); (case k2 => exact rfl); k_whole)))
local macro_rules | `(tactic| walk_at "exec For Name List cons nil") => `(tactic| (k_here; (rename Fr _ _ _ _ => lF'); (with_unfolding_all refine' For_invVF (hE := ?kE) lF' ?k1 ?k2 ?_; (case kE => first | with_reducible assumption | passes_own); (case k1 => exact rfl); (case k2 => exact rfl); k_whole)))
noncomputable def figs (n : Nat) : List Int := (digs n ++ [0, 0, 0, 0, 0, 0, 0, 0]).take 8
noncomputable def lawScope : Option Scope := match PySem.Challenge.pw_hn0001_01.main.body with
  | [_, _, _, _, _, _, _, _, _, _, _, .FunctionDef _ _ _ _ _ _ sc _ _ _] => some sc
  | _ => none
noncomputable def lawBody : List Stmt := match PySem.Challenge.pw_hn0001_01.main.body with
  | [_, _, _, _, _, _, _, _, _, _, _, .FunctionDef _ _ b _ _ _ _ _ _ _] => b
  | _ => []
noncomputable def lot (n : Nat) : List Int := (rangeKs 0 8).filter fun c => (figs n).getD c.toNat 0 == 1
noncomputable def NL (l : List Nat) : List Int := l.map Int.ofNat
noncomputable def mask (l : List Nat) : Nat := List.rec (motive := fun _ => Nat) 0 (fun c _ ih => Nat.lor ih (Nat.shiftLeft 1 c)) l
noncomputable def fg (m y : Nat) : Nat := Nat.land (Nat.shiftRight m y) 1
theorem fg_eq (m y : Nat) : fg m y = if m.testBit y then 1 else 0 := by
  show (m >>> y) &&& 1 = _
  rw [Nat.and_one_is_mod, Nat.shiftRight_eq_div_pow, Nat.testBit_eq_decide_div_mod_eq]
  by_cases h : m / 2 ^ y % 2 = 1
  · simp [h]
  · simp [h]; omega
theorem mask_bit (l : List Nat) (y : Nat) : (mask l).testBit y = l.any fun x => x == y := by
  induction l with
  | nil => simp [mask]
  | cons c r ih =>
    show (Nat.lor (mask r) (1 <<< c)).testBit y = _
    show (mask r ||| 1 <<< c).testBit y = _
    rw [Nat.testBit_or, ih, Nat.one_shiftLeft, Nat.testBit_two_pow, List.any_cons, Bool.or_comm]
    congr 1
theorem any_NL (l : List Nat) (y : Nat) : ((NL l).any fun x => x == (y : Int)) = (mask l).testBit y := by
  rw [mask_bit, NL, List.any_map]
  congr 1
  funext x
  show ((x : Int) == (y : Int)) = (x == y)
  by_cases h : x = y
  · subst h; simp
  · have : ¬ (x : Int) = (y : Int) := by omega
    rw [beq_eq_false_iff_ne.mpr h, beq_eq_false_iff_ne.mpr this]
theorem pow_cast (k : Nat) : (2 : Int) ^ k = ((2 ^ k : Nat) : Int) := by rw [Int.natCast_pow]; rfl
theorem bit_cast (c k : Nat) : ((c : Int).fdiv (2 ^ k)).fmod 2 = ((fg c k : Nat) : Int) := by
  rw [pow_cast, ← Int.ofNat_fdiv, show (2 : Int) = ((2 : Nat) : Int) from rfl, ← Int.ofNat_fmod]
  congr 1
  show _ = (c >>> k) &&& 1
  rw [Nat.and_one_is_mod, Nat.shiftRight_eq_div_pow]
noncomputable def eN (m c k : Nat) : Nat := Nat.mul (Nat.sub 1 (fg c k)) (fg m (Nat.add c (Nat.shiftLeft 1 k)))
theorem edge_NL (l : List Nat) (c k : Nat) (a : Nat) : (if edgeIs (NL l) (c : Int) k then a + 1 else a) = a + eN (mask l) c k := by
  unfold edgeIs
  rw [bit_cast, pow_cast, show (c : Int) + ((2 ^ k : Nat) : Int) = ((c + 2 ^ k : Nat) : Int) by omega, any_NL]
  unfold eN
  rw [show Nat.add c (Nat.shiftLeft 1 k) = c + 2 ^ k by show c + 1 <<< k = _; rw [Nat.one_shiftLeft], fg_eq (mask l), fg_eq c k]
  cases c.testBit k <;> cases (mask l).testBit (c + 2 ^ k) <;> simp
noncomputable def edgesN (m : Nat) (l : List Nat) : Nat := List.rec (motive := fun _ => Nat) 0 (fun c _ ih => Nat.add (Nat.add (Nat.add (eN m c 0) (eN m c 1)) (eN m c 2)) ih) l
theorem edges_NL (l : List Nat) : edges (NL l) = edgesN (mask l) l := by
  have key : ∀ (r : List Nat) (a : Nat), (NL r).foldl (fun a c => inner (NL l) c 3 a) a = a + edgesN (mask l) r := by
    intro r
    induction r with
    | nil => intro a; rfl
    | cons c r ih =>
      intro a
      show (NL r).foldl (fun a c => inner (NL l) c 3 a) (inner (NL l) (c : Int) 3 a) = _
      rw [ih]
      show inner (NL l) (c : Int) 3 a + _ = a + ((eN (mask l) c 0 + eN (mask l) c 1 + eN (mask l) c 2) + edgesN (mask l) r)
      have e0 : inner (NL l) (c : Int) 1 a = a + eN (mask l) c 0 := edge_NL l c 0 a
      have e1 : inner (NL l) (c : Int) 2 a = inner (NL l) (c : Int) 1 a + eN (mask l) c 1 := edge_NL l c 1 _
      have e2 : inner (NL l) (c : Int) 3 a = inner (NL l) (c : Int) 2 a + eN (mask l) c 2 := edge_NL l c 2 _
      omega
  have := key l 0
  rw [Nat.zero_add] at this
  exact this
noncomputable def pN (m k a : Nat) : Nat := Nat.sub a (Nat.mul (Nat.shiftLeft 1 k) (Nat.mul (fg a k) (Nat.sub 1 (fg m (Nat.sub a (Nat.shiftLeft 1 k))))))
noncomputable def pushN (m k : Nat) (l : List Nat) : List Nat := List.rec (motive := fun _ => List Nat) [] (fun c _ ih => List.cons (pN m k c) ih) l
theorem push_NL (l : List Nat) (k : Nat) : pushed (NL l) (k : Int) = NL (pushN (mask l) k l) := by
  have one : ∀ a : Nat, push1 (NL l) (k : Int) (a : Int) = ((pN (mask l) k a : Nat) : Int) := by
    intro a
    unfold push1 pushP
    rw [Int.toNat_natCast, bit_cast]
    unfold pN
    rw [show Nat.shiftLeft 1 k = 2 ^ k by show 1 <<< k = _; rw [Nat.one_shiftLeft], fg_eq a k]
    cases hb : a.testBit k with
    | false => simp
    | true =>
      have hle : 2 ^ k ≤ a := Nat.ge_two_pow_of_testBit hb
      rw [pow_cast, show (a : Int) - ((2 ^ k : Nat) : Int) = ((Nat.sub a (2 ^ k) : Nat) : Int) by show _ = ((a - 2 ^ k : Nat) : Int); omega, any_NL, fg_eq (mask l)]
      cases (mask l).testBit (Nat.sub a (2 ^ k)) <;> simp
  have all : ∀ r : List Nat, (NL r).map (push1 (NL l) (k : Int)) = NL (pushN (mask l) k r) := by
    intro r
    induction r with
    | nil => rfl
    | cons c r ih =>
      show push1 (NL l) (k : Int) (c : Int) :: (NL r).map (push1 (NL l) (k : Int)) = ((pN (mask l) k c : Nat) : Int) :: NL (pushN (mask l) k r)
      rw [ih, one]
  exact all l
theorem bitXor_small {c k : Nat} (hc : c < 8) (hk : k < 3) : Builtin.bitXor (c : Int) (2 ^ k) = ((c ^^^ 2 ^ k : Nat) : Int) := by
  have all : ∀ c : Fin 8, ∀ k : Fin 3, Builtin.bitXor ((c.val : Nat) : Int) (2 ^ k.val) = ((c.val ^^^ 2 ^ k.val : Nat) : Int) := by decide +kernel
  exact all ⟨c, hc⟩ ⟨k, hk⟩
noncomputable def oN (m c k : Nat) : Nat := Nat.sub 1 (fg m (Nat.xor c (Nat.shiftLeft 1 k)))
noncomputable def outsN (m : Nat) (l : List Nat) : Nat := List.rec (motive := fun _ => Nat) 0 (fun c _ ih => Nat.add (Nat.add (Nat.add (oN m c 0) (oN m c 1)) (oN m c 2)) ih) l
theorem out_one (l : List Nat) {c k : Nat} (hc : c < 8) (hk : k < 3) : outP (NL l) (c : Int) (k : Int) = !(mask l).testBit (c ^^^ 2 ^ k) ∧ oN (mask l) c k = if (mask l).testBit (c ^^^ 2 ^ k) then 0 else 1 := by
  constructor
  · unfold outP
    rw [Int.toNat_natCast, bitXor_small hc hk, any_NL]
  · unfold oN
    rw [show Nat.xor c (Nat.shiftLeft 1 k) = c ^^^ 2 ^ k by show c ^^^ 1 <<< k = _; rw [Nat.one_shiftLeft], fg_eq]
    split <;> rfl
theorem outs_NL (l : List Nat) (h : ∀ c ∈ l, c < 8) : (outs (NL l)).length = outsN (mask l) l := by
  have key : ∀ r : List Nat, (∀ c ∈ r, c < 8) → (flat2 (rangeKs 0 3) (outP (NL l)) (fun _ _ => 1) (NL r)).length = outsN (mask l) r := by
    intro r
    induction r with
    | nil => intro _; rfl
    | cons c r ih =>
      intro hr
      have hc := hr c (.head _)
      show (((rangeKs 0 3).filter (outP (NL l) (c : Int))).map _ ++ (NL r).flatMap _).length = (oN (mask l) c 0 + oN (mask l) c 1 + oN (mask l) c 2) + outsN (mask l) r
      rw [List.length_append, List.length_map]
      have := ih fun x hx => hr x (.tail _ hx)
      unfold flat2 at this
      rw [this]
      congr 1
      have z0 := out_one l hc (show 0 < 3 by decide)
      have z1 := out_one l hc (show 1 < 3 by decide)
      have z2 := out_one l hc (show 2 < 3 by decide)
      rw [show rangeKs 0 3 = [((0 : Nat) : Int), ((1 : Nat) : Int), ((2 : Nat) : Int)] by decide, z0.2, z1.2, z2.2]
      simp only [List.filter_cons, List.filter_nil, z0.1, z1.1, z2.1]
      cases (mask l).testBit (c ^^^ 2 ^ 0) <;> cases (mask l).testBit (c ^^^ 2 ^ 1) <;> cases (mask l).testBit (c ^^^ 2 ^ 2) <;> rfl
  exact key l h
noncomputable def selN (p : Nat → Nat) (l : List Nat) : List Nat := List.rec (motive := fun _ => List Nat) [] (fun c _ ih => Nat.rec (motive := fun _ => List Nat) ih (fun _ _ => List.cons c ih) (p c)) l
theorem selN_cons (p : Nat → Nat) (c : Nat) (r : List Nat) : selN p (c :: r) = if p c = 0 then selN p r else c :: selN p r := by
  show Nat.rec (motive := fun _ => List Nat) (selN p r) (fun _ _ => c :: selN p r) (p c) = _
  cases p c with
  | zero => rfl
  | succ x => rw [if_neg (Nat.succ_ne_zero x)]
theorem sel_NL (p : Nat → Nat) (P : Int → Bool) : ∀ l : List Nat, (∀ c ∈ l, P (c : Int) = decide (p c ≠ 0)) → (NL l).filter P = NL (selN p l)
  | [], _ => rfl
  | c :: r, h => by
    rw [selN_cons]
    show ((c : Int) :: NL r).filter P = _
    have ih := sel_NL p P r fun x hx => h x (.tail _ hx)
    have hc := h c (.head _)
    by_cases q : p c = 0
    · rw [if_pos q, List.filter_cons_of_neg (by rw [hc]; simp [q]), ih]
    · rw [if_neg q, List.filter_cons_of_pos (by rw [hc]; simp [q]), ih]; rfl
theorem selN_mem (p : Nat → Nat) : ∀ (l : List Nat) (c : Nat), c ∈ selN p l → c ∈ l
  | [], _, h => h
  | a :: r, c, h => by
    rw [selN_cons] at h
    split at h
    · exact .tail _ (selN_mem p r c h)
    · rcases List.mem_cons.mp h with rfl | h
      · exact .head _
      · exact .tail _ (selN_mem p r c h)
theorem selN_len (p : Nat → Nat) : ∀ l : List Nat, (selN p l).length ≤ l.length
  | [] => Nat.le_refl _
  | a :: r => by
    rw [selN_cons]
    have := selN_len p r
    split
    · rw [List.length_cons]; omega
    · rw [List.length_cons, List.length_cons]; omega
theorem NL_len (l : List Nat) : (NL l).length = l.length := List.length_map _
noncomputable def lenN (l : List Nat) : Nat := List.rec (motive := fun _ => Nat) 0 (fun _ _ ih => Nat.add 1 ih) l
theorem lenN_eq : ∀ l : List Nat, lenN l = l.length
  | [] => rfl
  | c :: r => by
    show 1 + lenN r = _
    rw [lenN_eq r, List.length_cons]; omega
noncomputable def mapN (f : Nat → Nat) (l : List Nat) : List Nat := List.rec (motive := fun _ => List Nat) [] (fun c _ ih => List.cons (f c) ih) l
theorem map_NL (f : Nat → Nat) (F : Int → Int) : ∀ l : List Nat, (∀ c ∈ l, F (c : Int) = ((f c : Nat) : Int)) → (NL l).map F = NL (mapN f l)
  | [], _ => rfl
  | c :: r, h => by
    show F (c : Int) :: (NL r).map F = ((f c : Nat) : Int) :: NL (mapN f r)
    rw [h c (.head _), map_NL f F r fun x hx => h x (.tail _ hx)]
theorem mapN_mem (f : Nat → Nat) : ∀ (l : List Nat) (y : Nat), y ∈ mapN f l → ∃ c ∈ l, y = f c
  | [], _, h => nomatch h
  | a :: r, y, h => by
    rcases List.mem_cons.mp h with rfl | h
    · exact ⟨a, .head _, rfl⟩
    · obtain ⟨c, hc, e⟩ := mapN_mem f r y h; exact ⟨c, .tail _ hc, e⟩
theorem fg_ne (m y : Nat) : decide (fg m y ≠ 0) = m.testBit y := by rw [fg_eq]; cases m.testBit y <;> simp
theorem fg_off (m y : Nat) : decide (Nat.sub 1 (fg m y) ≠ 0) = !m.testBit y := by rw [fg_eq]; cases m.testBit y <;> simp
noncomputable def eight : List Nat := [0, 1, 2, 3, 4, 5, 6, 7]
noncomputable def lotN (n : Nat) : List Nat := selN (fg n) eight
theorem eight_lt {c : Nat} (h : c ∈ eight) : c < 8 := by
  have : ∀ c ∈ eight, c < 8 := by decide +kernel
  exact this c h
theorem lotN_lt {n c : Nat} (h : c ∈ lotN n) : c < 8 := eight_lt (selN_mem _ _ _ h)
theorem ks8_NL : rangeKs 0 8 = NL eight := by decide +kernel
theorem figs_at {n : Nat} (h : n < 256) : figs n = NL [fg n 0, fg n 1, fg n 2, fg n 3, fg n 4, fg n 5, fg n 6, fg n 7] := by
  have all : ∀ n : Fin 256, figs n.val = NL [fg n.val 0, fg n.val 1, fg n.val 2, fg n.val 3, fg n.val 4, fg n.val 5, fg n.val 6, fg n.val 7] := by decide +kernel
  exact all ⟨n, h⟩
theorem lot_NL {n : Nat} (h : n < 256) : lot n = NL (lotN n) := by
  unfold lot
  rw [ks8_NL, figs_at h]
  refine sel_NL (fg n) _ eight fun c hc => ?_
  have hc' : c = 0 ∨ c = 1 ∨ c = 2 ∨ c = 3 ∨ c = 4 ∨ c = 5 ∨ c = 6 ∨ c = 7 := by have := eight_lt hc; omega
  have one : ∀ x : Nat, (((fg n x : Nat) : Int) == 1) = decide (fg n x ≠ 0) := by
    intro x
    rw [fg_eq]; cases n.testBit x <;> simp
  rw [← one]
  rcases hc' with rfl | rfl | rfl | rfl | rfl | rfl | rfl | rfl <;> rfl
noncomputable def allN (f : Nat → Bool) (n : Nat) : Bool := Nat.rec (motive := fun _ => Bool) true (fun i ih => Bool.rec (motive := fun _ => Bool) false ih (f i)) n
theorem allN_at {f : Nat → Bool} : ∀ {n : Nat}, allN f n = true → ∀ i, i < n → f i = true
  | 0, _, i, hi => absurd hi (Nat.not_lt_zero i)
  | n + 1, h, i, hi => by
    have h' : Bool.rec (motive := fun _ => Bool) false (allN f n) (f n) = true := h
    cases hf : f n with
    | false => rw [hf] at h'; cases h'
    | true =>
      rw [hf] at h'
      rcases Nat.lt_succ_iff_lt_or_eq.mp hi with q | rfl
      · exact allN_at h' i q
      · exact hf
theorem and_both {a b : Bool} (h : Bool.rec (motive := fun _ => Bool) false b a = true) : a = true ∧ b = true := by
  cases a with
  | false => cases h
  | true => exact ⟨rfl, h⟩
noncomputable abbrev an (a b : Bool) : Bool := Bool.rec (motive := fun _ => Bool) false b a
noncomputable def chkV (n : Nat) : Bool := Nat.beq (Nat.add (Nat.add (Nat.add (Nat.add (Nat.add (Nat.add (Nat.add (fg n 0) (Nat.mul (fg n 1) 2)) (Nat.mul (fg n 2) 4)) (Nat.mul (fg n 3) 8)) (Nat.mul (fg n 4) 16)) (Nat.mul (fg n 5) 32)) (Nat.mul (fg n 6) 64)) (Nat.mul (fg n 7) 128)) n
theorem allV : allN chkV 256 = true := by decide +kernel
theorem figs_facts {n : Nat} (h : n < 256) : (figs n).length = 8 ∧ (∀ x ∈ figs n, 0 ≤ x ∧ x ≤ 1) ∧ val (figs n) 0 8 = (n : Int) := by
  have le : ∀ y, fg n y ≤ 1 := fun y => by rw [fg_eq]; split <;> omega
  rw [figs_at h]
  refine ⟨rfl, fun x hx => ?_, ?_⟩
  · obtain ⟨c, hc, rfl⟩ := List.mem_map.mp hx
    simp only [List.mem_cons, List.not_mem_nil, or_false] at hc
    have : c ≤ 1 := by rcases hc with rfl | rfl | rfl | rfl | rfl | rfl | rfl | rfl <;> exact le _
    exact ⟨Int.natCast_nonneg _, Int.ofNat_le.mpr this⟩
  · have z : Nat.add (Nat.add (Nat.add (Nat.add (Nat.add (Nat.add (Nat.add (fg n 0) (Nat.mul (fg n 1) 2)) (Nat.mul (fg n 2) 4)) (Nat.mul (fg n 3) 8)) (Nat.mul (fg n 4) 16)) (Nat.mul (fg n 5) 32)) (Nat.mul (fg n 6) 64)) (Nat.mul (fg n 7) 128) = n := Nat.eq_of_beq_eq_true (allN_at allV n h)
    show 0 + ((fg n 0 : Nat) : Int) * 1 + ((fg n 1 : Nat) : Int) * 2 + ((fg n 2 : Nat) : Int) * 4 + ((fg n 3 : Nat) : Int) * 8 + ((fg n 4 : Nat) : Int) * 16 + ((fg n 5 : Nat) : Int) * 32 + ((fg n 6 : Nat) : Int) * 64 + ((fg n 7 : Nat) : Int) * 128 = (n : Int)
    have z' : fg n 0 + fg n 1 * 2 + fg n 2 * 4 + fg n 3 * 8 + fg n 4 * 16 + fg n 5 * 32 + fg n 6 * 64 + fg n 7 * 128 = n := z
    omega
theorem lot_len (n : Nat) : (lot n).length ≤ 8 := Nat.le_trans (List.length_filter_le _ _) (by decide)
theorem lot_mem {n : Nat} {x : Int} (h : x ∈ lot n) : 0 ≤ x ∧ x < 8 := by
  have := mem_rangeKs (List.mem_filter.mp h).1
  omega
theorem edges_le8 {ns : List Int} (h : ns.length ≤ 8) : edges ns ≤ 24 := by
  rw [← edgesTo_all]
  exact Nat.le_trans (edgesTo_le ns _) (by omega)
noncomputable def wt (i : Nat) : Nat := [0, 0, 1, 2, 4, 5, 7, 9, 12].getD i 0
noncomputable def wts (i : Nat) : List Int := (List.range i).map fun j => (wt j : Int)
theorem wt_edges {i : Nat} (h : i < 9) : edges (rangeKs 0 i) = wt i := by
  have all : ∀ i : Fin 9, edges (rangeKs 0 i.val) = wt i.val := by decide +kernel
  exact all ⟨i, h⟩
theorem wt_twice {i : Nat} (h : i < 9) : 2 * (wt i : Int) ≤ (i : Int) * ((digs i).length : Int) := by
  have all : ∀ i : Fin 9, 2 * (wt i.val : Int) ≤ (i.val : Int) * ((digs i.val).length : Int) := by decide +kernel
  exact all ⟨i, h⟩
theorem wt_next {i : Nat} (h : i < 8) : (corner i).sum + (wt i : Int) = (wt (i + 1) : Nat) := by
  have all : ∀ i : Fin 8, (corner i.val).sum + (wt i.val : Int) = (wt (i.val + 1) : Nat) := by decide +kernel
  exact all ⟨i, h⟩
theorem wts_succ (i : Nat) : wts (i + 1) = wts i ++ [(wt i : Int)] := by unfold wts; rw [List.range_succ, List.map_append]; rfl
theorem wts_len (i : Nat) : (wts i).length = i := by simp [wts]
theorem news_pickB {g h : Heap} {L : Addr} {a b c d e : Addr × Obj} {r : List (Addr × Obj)} (N : News g L h (a :: b :: c :: d :: e :: r)) : News g L h (a :: c :: d :: r) := news_sub N fun p hp => by
  simp only [List.mem_cons] at hp ⊢
  rcases hp with q | q | q | q <;> simp [q]
noncomputable def inB (w : World) (rest : List (Addr × Obj)) (lf : Addr) (wi : Value) (i : Nat) (m : Str → Option Value) (nx : List (Addr × Obj)) : Prop :=
  (∃ (ff : List Value) (fv : Nat) (t1 t2 t3 t4 : Tok) (tn : Nat) (tw d : Addr) (od : Obj),
      nx = (lf, W.listOf ff.toArray fv) :: (tw, ⟨.type "tuple", none, .seq #[.int (wt (min i 8) : Nat) t1, .int (min i 8 : Nat) t2, .int 0 t3, .int 0 t4, .ref d] tn, #[]⟩) :: (d, od) :: rest ∧
      IntsAre ff (wts i) ∧ Emp w d od ∧ @Ne Nat tw lf ∧ @Ne Nat d lf ∧ m (Str.ofString "whole") = some (.ref tw)) ∧ m (Str.ofString "firsts") = some (.ref lf) ∧ m (Str.ofString "within") = some wi
theorem corner_len (x : Nat) : (corner x).length = 3 := by
  unfold corner
  rw [List.length_take, List.length_append]
  simp only [List.length_cons, List.length_nil]
  omega
theorem news_of4 {g h : Heap} {L : Addr} {nx : List (Addr × Obj)} {a b c d : Addr × Obj} (N : News g L h nx) (ha : a ∈ nx) (hb : b ∈ nx) (hc : c ∈ nx) (hd : d ∈ nx) : News g L h [a, b, c, d] := news_sub N fun p hp => by
  simp only [List.mem_cons, List.not_mem_nil, or_false] at hp
  rcases hp with rfl | rfl | rfl | rfl <;> assumption
theorem grow2 {g h h' : Heap} {L r1 r2 : Addr} {m : Str → Option Value} {a b : Obj} {nx : List (Addr × Obj)} (F : Fr g L h m) (N : News g L h nx) (st : h.StaysIn h') (e1 : h'.get? r1 = some a) (f1 : h.get? r1 = none) (e2 : h'.get? r2 = some b) (f2 : h.get? r2 = none) :
    Fr g L h' m ∧ News g L h' ((r1, a) :: (r2, b) :: nx) ∧ AllNe r1 nx ∧ AllNe r2 nx ∧ @Ne Nat r1 L ∧ @Ne Nat r2 L := by
  obtain ⟨F', N1, n1, l1⟩ := grow F N st e1 f1
  obtain ⟨_, N2, n2, l2⟩ := grow F N st e2 f2
  refine ⟨F', fun p hp => ?_, n1, n2, l1, l2⟩
  rcases List.mem_cons.mp hp with rfl | hp
  · exact N1 _ (.head _)
  · exact N2 p hp
theorem inB_next {w : World} {rest : List (Addr × Obj)} {lf : Addr} {wi : Value} {i : Nat} {m : Str → Option Value} {ff : List Value} {fv tn : Nat} {t1 t2 t3 t4 : Tok} {q d : Addr} {od : Obj} (hi : i ≤ 8) (hf : IntsAre ff (wts i)) (he : Emp w d od) (h1 : @Ne Nat q lf) (h2 : @Ne Nat d lf)
    (hm1 : m (Str.ofString "whole") = some (.ref q)) (hm2 : m (Str.ofString "firsts") = some (.ref lf)) (hm3 : m (Str.ofString "within") = some wi) :
    inB w rest lf wi i m ((lf, W.listOf ff.toArray fv) :: (q, ⟨.type "tuple", none, .seq #[.int (wt i : Nat) t1, .int (i : Nat) t2, .int 0 t3, .int 0 t4, .ref d] tn, #[]⟩) :: (d, od) :: rest) :=
  ⟨⟨ff, fv, t1, t2, t3, t4, tn, q, d, od, by rw [show min i 8 = i by omega], hf, he, h1, h2, hm1⟩, hm2, hm3⟩
theorem news_drop4 {g h : Heap} {L : Addr} {a b c d : Addr × Obj} {r : List (Addr × Obj)} (N : News g L h (a :: b :: c :: d :: r)) : News g L h r := news_sub N fun p hp => .tail _ (.tail _ (.tail _ (.tail _ hp)))
theorem newsKeeps {g h h' : Heap} {L : Addr} {nx : List (Addr × Obj)} (N : News g L h nx) (st : h.StaysIn h') : News g L h' nx := fun p hp => ⟨st _ _ (N p hp).1, (N p hp).2⟩
theorem news_drop1 {g h : Heap} {L : Addr} {a : Addr × Obj} {r : List (Addr × Obj)} (N : News g L h (a :: r)) : News g L h r := news_sub N fun p hp => .tail _ hp
noncomputable def others (n : Nat) : List Int := (rangeKs 0 8).filter fun c => !((lot n).any (· == c))
theorem others_len (n : Nat) : (others n).length ≤ 8 := Nat.le_trans (List.length_filter_le _ _) (by decide)
theorem others_mem {n : Nat} {x : Int} (h : x ∈ others n) : 0 ≤ x ∧ x < 8 := by
  have := mem_rangeKs (List.mem_filter.mp h).1
  omega
noncomputable def turnC (c : Int) : Int := val (List.drop (Int.toNat 1) (corner c.toNat) ++ List.take (Int.toNat 1) (corner c.toNat)) 0 (List.drop (Int.toNat 1) (corner c.toNat) ++ List.take (Int.toNat 1) (corner c.toNat)).length
theorem turn_facts (x : Nat) (h : x < 8) : (List.drop (Int.toNat 1) (corner x) ++ List.take (Int.toNat 1) (corner x)).length = 3 ∧ ∀ y ∈ List.drop (Int.toNat 1) (corner x) ++ List.take (Int.toNat 1) (corner x), 0 ≤ y ∧ y ≤ 1 := by
  have all : ∀ x : Fin 8, (List.drop (Int.toNat 1) (corner x.val) ++ List.take (Int.toNat 1) (corner x.val)).length = 3 ∧ ∀ y ∈ List.drop (Int.toNat 1) (corner x.val) ++ List.take (Int.toNat 1) (corner x.val), 0 ≤ y ∧ y ≤ 1 := by decide +kernel
  exact all ⟨x, h⟩
noncomputable def inE (front back : List (Addr × Obj)) (a4 a3 : Addr) (wi : Value) (_ : Nat) (m : Str → Option Value) (nx : List (Addr × Obj)) : Prop :=
  ∃ (p3 p4 : Obj) (w3 w4 : Option Value), nx = front ++ (a4, p4) :: (a3, p3) :: back ∧ p3.data = .cell w3 ∧ p4.data = .cell w4 ∧ m (Str.ofString "within") = some wi
noncomputable def lowP (k : Nat) (c : Int) : Bool := (c.fdiv (2 ^ k)).fmod 2 == 0
noncomputable def highP (k : Nat) (c : Int) : Bool := (c.fdiv (2 ^ k)).fmod 2 == 1
noncomputable def acr (n k : Nat) : Nat := (((lot n).filter (lowP k)).filter fun c => ((lot n).filter (highP k)).any (· == c + 2 ^ k)).length
theorem wt_getD {i : Nat} (h : i < 9) : ([0, 0, 1, 2, 4, 5, 7, 9, 12] : List Int).getD i 0 = ((wt i : Nat) : Int) := by
  have all : ∀ i : Fin 9, ([0, 0, 1, 2, 4, 5, 7, 9, 12] : List Int).getD i.val 0 = ((wt i.val : Nat) : Int) := by decide +kernel
  exact all ⟨i, h⟩
noncomputable def otherN (n : Nat) : List Nat := selN (fun c => Nat.sub 1 (fg (mask (lotN n)) c)) eight
noncomputable def tN (c : Nat) : Nat := Nat.add (Nat.div c 2) (Nat.mul 4 (Nat.mod c 2))
noncomputable def sN (c : Nat) : Nat := Nat.sub 7 c
noncomputable def edN (l : List Nat) : Nat := edgesN (mask l) l
noncomputable def ouN (l : List Nat) : Nat := outsN (mask l) l
noncomputable def lowN (k : Nat) (l : List Nat) : List Nat := selN (fun c => Nat.sub 1 (fg c k)) l
noncomputable def highN (k : Nat) (l : List Nat) : List Nat := selN (fun c => fg c k) l
noncomputable def acrN (k : Nat) (l : List Nat) : Nat := lenN (selN (fun c => fg (mask (highN k l)) (Nat.add c (Nat.shiftLeft 1 k))) (lowN k l))
noncomputable def chkA (n : Nat) : Bool := an (Nat.ble (edN (lotN n)) (wt (lenN (lotN n)))) (an (Nat.beq (Nat.add (ouN (lotN n)) (Nat.mul 2 (edN (lotN n)))) (Nat.mul 3 (lenN (lotN n)))) (Nat.beq (ouN (lotN n)) (ouN (otherN n))))
noncomputable def chkB (n : Nat) : Bool := an (Nat.beq (edN (mapN tN (lotN n))) (edN (lotN n))) (Nat.beq (edN (mapN sN (lotN n))) (edN (lotN n)))
noncomputable def chkC (k n : Nat) : Bool := an (Nat.beq (edN (lotN n)) (Nat.add (Nat.add (edN (lowN k (lotN n))) (edN (highN k (lotN n)))) (acrN k (lotN n)))) (Nat.ble (acrN k (lotN n)) (lenN (highN k (lotN n))))
theorem allA : allN chkA 256 = true := by decide +kernel
theorem allB : allN chkB 256 = true := by decide +kernel
theorem allC0 : allN (chkC 0) 256 = true := by decide +kernel
theorem allC1 : allN (chkC 1) 256 = true := by decide +kernel
theorem allC2 : allN (chkC 2) 256 = true := by decide +kernel
noncomputable def ndp (l : List Nat) : Bool := List.rec (motive := fun _ => Bool) true (fun c r ih => an (Nat.beq (fg (mask r) c) 0) ih) l
noncomputable def chkH (ks : List Nat) : List Nat → Bool := List.rec (motive := fun _ => List Nat → Bool) (fun l => ndp l) (fun k _ ih l => an (ndp l) (an (Nat.ble (edN l) (edN (pushN (mask l) k l))) (ih (pushN (mask l) k l)))) ks
theorem allH : allN (fun n => chkH [0, 1, 2, 0, 1] (lotN n)) 256 = true := by decide +kernel
theorem low_bit (c k : Nat) : lowP k (c : Int) = decide (Nat.sub 1 (fg c k) ≠ 0) := by
  unfold lowP
  rw [bit_cast, fg_eq]; cases c.testBit k <;> simp
theorem high_bit (c k : Nat) : highP k (c : Int) = decide (fg c k ≠ 0) := by
  unfold highP
  rw [bit_cast, fg_eq]; cases c.testBit k <;> simp
theorem low_NL (l : List Nat) (k : Nat) : (NL l).filter (lowP k) = NL (lowN k l) := sel_NL _ _ l fun c _ => low_bit c k
theorem high_NL (l : List Nat) (k : Nat) : (NL l).filter (highP k) = NL (highN k l) := sel_NL _ _ l fun c _ => high_bit c k
theorem ed_NL (l : List Nat) : edges (NL l) = edN l := edges_NL l
theorem acr_NL {n : Nat} (h : n < 256) (k : Nat) : acr n k = acrN k (lotN n) := by
  unfold acr acrN
  rw [lot_NL h, low_NL, high_NL, lenN_eq, ← NL_len]
  congr 1
  refine sel_NL _ _ _ fun c _ => ?_
  rw [fg_ne, pow_cast, show (c : Int) + ((2 ^ k : Nat) : Int) = ((c + 2 ^ k : Nat) : Int) by omega, any_NL, show Nat.add c (Nat.shiftLeft 1 k) = c + 2 ^ k by show c + 1 <<< k = _; rw [Nat.one_shiftLeft]]
theorem other_NL {n : Nat} (h : n < 256) : others n = NL (otherN n) := by
  unfold others otherN
  rw [ks8_NL, lot_NL h]
  refine sel_NL _ _ _ fun c _ => ?_
  rw [fg_off, any_NL]
theorem lot_fits {n : Nat} (h : n < 256) : (edges (lot n) : Int) ≤ ([0, 0, 1, 2, 4, 5, 7, 9, 12] : List Int).getD (lot n).length 0 := by
  have z := Nat.le_of_ble_eq_true (and_both (allN_at allA n h)).1
  have hl := lot_len n
  rw [wt_getD (by omega)]
  rw [lot_NL h, NL_len, ed_NL, ← lenN_eq]
  exact Int.ofNat_le.mpr z
theorem lot_out {n : Nat} (h : n < 256) : (((outs (lot n)).length : Nat) : Int) = 3 * ((lot n).length : Int) - 2 * (edges (lot n) : Int) := by
  have z : ouN (lotN n) + 2 * edN (lotN n) = 3 * lenN (lotN n) := Nat.eq_of_beq_eq_true (and_both (and_both (allN_at allA n h)).2).1
  rw [lot_NL h, NL_len, ed_NL, ← lenN_eq, outs_NL _ fun c hc => lotN_lt hc]
  unfold ouN at z
  omega
theorem lot_both {n : Nat} (h : n < 256) : (((outs (lot n)).length : Nat) : Int) = ((outs (others n)).length : Nat) := by
  have z : ouN (lotN n) = ouN (otherN n) := Nat.eq_of_beq_eq_true (and_both (and_both (allN_at allA n h)).2).2
  rw [lot_NL h, other_NL h, outs_NL _ fun c hc => lotN_lt hc, outs_NL (otherN n) fun c hc => eight_lt (selN_mem _ _ _ hc)]
  exact congrArg Nat.cast z
theorem turn_eq {c : Nat} (h : c < 8) : turnC (c : Int) = ((tN c : Nat) : Int) := by
  have all : ∀ c : Fin 8, turnC ((c.val : Nat) : Int) = ((tN c.val : Nat) : Int) := by decide +kernel
  exact all ⟨c, h⟩
theorem small_turn {c : Nat} (h : c < 8) : tN c < 8 := by
  have all : ∀ c : Fin 8, tN c.val < 8 := by decide +kernel
  exact all ⟨c, h⟩
theorem moved_facts {n : Nat} (h : n < 256) : edges ((lot n).map turnC) = edges (lot n) ∧ edges ((lot n).map fun c => 7 - c) = edges (lot n) ∧ (∀ x ∈ (lot n).map turnC, 0 ≤ x ∧ x < 8) ∧ (∀ x ∈ (lot n).map (fun c => 7 - c), 0 ≤ x ∧ x < 8) := by
  have z1 : edN (mapN tN (lotN n)) = edN (lotN n) := Nat.eq_of_beq_eq_true (and_both (allN_at allB n h)).1
  have z2 : edN (mapN sN (lotN n)) = edN (lotN n) := Nat.eq_of_beq_eq_true (and_both (allN_at allB n h)).2
  have e1 : (lot n).map turnC = NL (mapN tN (lotN n)) := by rw [lot_NL h]; exact map_NL _ _ _ fun c hc => turn_eq (lotN_lt hc)
  have e2 : (lot n).map (fun c => 7 - c) = NL (mapN sN (lotN n)) := by
    rw [lot_NL h]
    refine map_NL _ _ _ fun c hc => ?_
    have := lotN_lt hc
    show 7 - (c : Int) = ((7 - c : Nat) : Int)
    omega
  rw [e1, e2, ed_NL, ed_NL, lot_NL h, ed_NL]
  refine ⟨z1, z2, fun x hx => ?_, fun x hx => ?_⟩
  · obtain ⟨y, hy, rfl⟩ := List.mem_map.mp hx
    obtain ⟨c, hc, rfl⟩ := mapN_mem _ _ _ hy
    have := small_turn (lotN_lt hc)
    exact ⟨Int.natCast_nonneg _, Int.ofNat_lt.mpr this⟩
  · obtain ⟨y, hy, rfl⟩ := List.mem_map.mp hx
    obtain ⟨c, hc, rfl⟩ := mapN_mem _ _ _ hy
    have : sN c < 8 := by show 7 - c < 8; omega
    exact ⟨Int.natCast_nonneg _, Int.ofNat_lt.mpr this⟩
theorem acr_facts {n k : Nat} (h : n < 256) (hk : k < 3) : (edges (lot n) : Int) - (edges ((lot n).filter (lowP k)) : Int) - (edges ((lot n).filter (highP k)) : Int) = (acr n k : Int) ∧ acr n k ≤ ((lot n).filter (lowP k)).length ∧ acr n k ≤ ((lot n).filter (highP k)).length := by
  have z : chkC k n = true := by
    have hk' : k = 0 ∨ k = 1 ∨ k = 2 := by omega
    rcases hk' with rfl | rfl | rfl
    · exact allN_at allC0 n h
    · exact allN_at allC1 n h
    · exact allN_at allC2 n h
  have z1 : edN (lotN n) = edN (lowN k (lotN n)) + edN (highN k (lotN n)) + acrN k (lotN n) := Nat.eq_of_beq_eq_true (and_both z).1
  have z2 : acrN k (lotN n) ≤ lenN (highN k (lotN n)) := Nat.le_of_ble_eq_true (and_both z).2
  have z3 : acrN k (lotN n) ≤ (lowN k (lotN n)).length := by unfold acrN; rw [lenN_eq]; exact selN_len _ _
  rw [acr_NL h, lot_NL h, low_NL, high_NL, ed_NL, ed_NL, ed_NL, NL_len, NL_len]
  rw [lenN_eq] at z2
  exact ⟨by omega, z3, z2⟩
end Mine
end
section
open PySem PySem.W PyProof.Rows PySem.Calls
set_option maxRecDepth 100000
namespace Mine
local macro_rules | `(tactic| walk_at "mine enter") => `(tactic| (refine' call_raw ?k1 ?k2 ?k3 ?k4 ?k5 ?kA ?kF ?kK ?k6 ?k7 ?k8 ?k9 ?kB ?_ ?c2 ?c3 ?c4 ?c5; (case kA => exact rfl); (case kF => exact rfl); (case kK => assumption); (case k1 => k_asm); (case k2 => k_asm); (case k3 => k_asm); (case k4 => k_asm); (case k5 => k_asm); (case k6 => k_is); (case k7 => k_is); (case k8 => ktr_room); (case k9 => exact BindsTo.of_eq rfl); (case c5 => decide); (case kB => exact locs rfl); (case c2 => exact rfl); (case c3 => exact rfl); (case c4 => exact rfl); k_whole; intro L' h' tk' FG' F' N' B' X' T' st' lt'; (try k_lt lt'); (try dsimp only); (try k_lift B'); (try k_fold)))
local macro_rules | `(tactic| walk_at "mine steps") => `(tactic| repeat' (first | (k_unfold; (try dsimp only)) | ((fail_if_success (with_reducible show wpAny _ _ (pyIter (Value.ref _)) _ _ _)); (fail_if_success (with_reducible show InvEndN _ _ _ _ _ _ _)); (fail_if_success (with_reducible show UnrEnd _ _ _ _ _ _ _)); (fail_if_success (with_reducible show _ ∧ Keeps _ _)); (fail_if_success (with_reducible show ∃ _, _)); (fail_if_success (with_reducible show wpAny _ _ (exec (Stmt.Assign _ (PySem.Expr.ListComp _ _ _ _) _) _) _ _ _)); (fail_if_success (with_reducible show wpAny _ _ (execs (Stmt.Assign [PySem.Expr.Tuple _ _ _] (PySem.Expr.Tuple _ _ _) _ :: _) _) _ _ _)); (fail_if_success (with_reducible show wpAny _ _ (subscriptTail _ (PySem.Expr.Slice _ _ _ _) _ _) _ _ _)); (fail_if_success (with_reducible show wpAny _ _ (binaryOp Operator.Add (Value.ref _) (Value.ref _)) _ _ _)); (fail_if_success (with_reducible show wpAny _ _ (PySem.call (Value.ref _) _ _) _ _ _)); (fail_if_success (with_reducible show wpAny _ _ (eval (Expr.ListComp _ _ _ _) _) _ _ _)); first | walk1 | (dsimp only; walk1)) | fail "no step"))
local macro_rules | `(tactic| walk_at "execs cons") => `(tactic| ((with_reducible refine wpAny_execs_cons ?_); try dsimp only))
local macro_rules | `(tactic| walk_at "execs nil") => `(tactic| (with_reducible refine wpAny_execs_nil ?_))
local macro_rules | `(tactic| k_all) => `(tactic| assumption)
local macro_rules | `(tactic| walk_at "mine enterC") => `(tactic| (refine' call_rawC ?k1 ?k2 ?k3 ?k4 ?k5 ?kA ?kF ?kK ?k6 ?k7 ?k8 ?k9 ?kB ?kD ?_ ?c2 ?c3 ?c4; (case kA => exact rfl); (case kF => exact rfl); (case kK => assumption); (case k1 => k_asm); (case k2 => k_asm); (case k3 => k_asm); (case k4 => k_asm); (case k5 => k_asm); (case k6 => k_is); (case k7 => k_is); (case k8 => ktr_room); (case k9 => exact BindsTo.of_eq rfl); (case kB => exact rfl); (case kD => decide +kernel); (case c2 => exact rfl); (case c3 => exact rfl); (case c4 => exact rfl); k_whole; intro L' h' tk' cells' FG' F' N' Y' B' X' T' st' lt'; (try k_lt lt'); k_cells Y'; (try simp only [List.cons_append, List.nil_append] at N'); (try dsimp only); (try k_lift B'); (try k_fold)))
local macro_rules | `(tactic| walk_at "mine stepsD") => `(tactic| repeat' (first | (k_unfold; (try dsimp only)) | ((fail_if_success (with_reducible show wpAny _ _ (pyIter (Value.ref _)) _ _ _)); (fail_if_success (with_reducible show InvEndN _ _ _ _ _ _ _)); (fail_if_success (with_reducible show UnrEnd _ _ _ _ _ _ _)); (fail_if_success (with_reducible show _ ∧ Keeps _ _)); (fail_if_success (with_reducible show ∃ _, _)); (fail_if_success (with_reducible show wpAny _ _ (exec (Stmt.Assign _ (PySem.Expr.ListComp _ _ _ _) _) _) _ _ _)); (fail_if_success (with_reducible show wpAny _ _ (execs (Stmt.Assign [PySem.Expr.Tuple _ _ _] (PySem.Expr.Tuple _ _ _) _ :: _) _) _ _ _)); (fail_if_success (with_reducible show wpAny _ _ (subscriptTail _ (PySem.Expr.Slice _ _ _ _) _ _) _ _ _)); (fail_if_success (with_reducible show wpAny _ _ (binaryOp Operator.Add (Value.ref _) (Value.ref _)) _ _ _)); (fail_if_success (with_reducible show wpAny _ _ (PySem.call (Value.ref _) _ _) _ _ _)); (fail_if_success (with_reducible show wpAny _ _ (eval (Expr.ListComp _ _ _ _) _) _ _ _)); (try dsimp only); walk1) | fail "no step"))
local macro_rules | `(tactic| walk_at "mine enterN") => `(tactic| (refine' call_rawN ?k1 ?k2 ?k3 ?k4 ?k5 ?kA ?kF ?kK ?k6 ?k7 ?k8 ?k9 ?kB ?_ ?c2 ?c3 ?c4 ?c5; (case kA => exact rfl); (case kF => exact rfl); (case kK => assumption); (case k1 => k_asm); (case k2 => k_asm); (case k3 => k_asm); (case k4 => k_asm); (case k5 => k_asm); (case k6 => k_mem); (case k7 => exact codeRec_news (by k_asm) (by k_mem) (by assumption) (by assumption)); (case k8 => ktr_room); (case k9 => exact BindsTo.of_eq rfl); (case c5 => decide); (case kB => exact locs rfl); (case c2 => exact rfl); (case c3 => exact rfl); (case c4 => exact rfl); k_whole; intro L' h' tk' FG' F' N' B' X' T' st' lt'; (try k_lt lt'); (try dsimp only); (try k_lift B'); (try k_fold)))
local macro_rules | `(tactic| walk_at "subscriptTail Name Name ref int") => `(tactic| (k_here; (with_unfolding_all refine' item_ints ?k1 ?k2 ?k3 ?k4 ?k5 ?_ ?k6; (case k1 => first | exact is_list_of (by with_reducible assumption) (by with_reducible assumption) | exact isList_of (by with_reducible assumption) (by k_mem)); (case k2 => with_reducible assumption); (case k3 => omega); (case k4 => omega); (case k5 => omega); (case k6 => with_unfolding_all rfl); k_whole); intro tI))
local macro_rules | `(tactic| walk_at "call builtin:len") => `(tactic| (k_here; (with_reducible show wpAny _ _ (PySem.call (Value.builtin _) [Value.ref _]) _ _ _); k_dflt (refine' len_known ?k1 ?k2 ?k3 ?k4 ?_; (case k1 => k_asm); (case k2 => k_mem); (case k3 => first | with_reducible assumption | exact IntsAre.length (by with_reducible assumption)); (case k4 => omega); k_whole)))
local macro_rules | `(tactic| walk_at "exec For Name Call cons nil") => `(tactic| (k_here; (rename Fr _ _ _ _ => lF'); (with_unfolding_all refine' For_invVF (hE := ?kE) lF' ?k1 ?k2 ?_; (case kE => first | with_reducible assumption | passes_own); (case k1 => exact rfl); (case k2 => exact rfl); k_whole)))
local macro_rules | `(tactic| walk_at "exec For Name List cons nil") => `(tactic| (k_here; (rename Fr _ _ _ _ => lF'); (with_unfolding_all refine' For_invVF (hE := ?kE) lF' ?k1 ?k2 ?_; (case kE => first | with_reducible assumption | passes_own); (case k1 => exact rfl); (case k2 => exact rfl); k_whole)))
noncomputable def ks5 : List Int := [0, 1, 2, 0, 1]
noncomputable def hs (n i : Nat) : List Int := (ks5.take i).foldl pushed (lot n)
theorem hs_succ {n i : Nat} {k : Int} (h : ks5[i]? = some k) : hs n (i + 1) = pushed (hs n i) k := by
  unfold hs
  rw [List.take_add_one, h, List.foldl_append]; rfl
noncomputable def goN (l : List Nat) (k : Nat) : List Nat := pushN (mask l) k l
theorem go_NL : ∀ (ks l : List Nat), (NL ks).foldl pushed (NL l) = NL (ks.foldl goN l)
  | [], _ => rfl
  | k :: r, l => by
    show (NL r).foldl pushed (pushed (NL l) (k : Int)) = NL (r.foldl goN (goN l k))
    rw [push_NL]
    exact go_NL r (goN l k)
theorem ndp_nodup : ∀ l : List Nat, ndp l = true → (NL l).Nodup
  | [], _ => List.nodup_nil
  | c :: r, h => by
    have h' : an (Nat.beq (fg (mask r) c) 0) (ndp r) = true := h
    obtain ⟨h1, h2⟩ := and_both h'
    refine List.nodup_cons.mpr ⟨fun hm => ?_, ndp_nodup r h2⟩
    obtain ⟨y, hy, e⟩ := List.mem_map.mp hm
    have e' : y = c := Int.ofNat.inj e
    subst e'
    have z : fg (mask r) y = 0 := Nat.eq_of_beq_eq_true h1
    have b : (mask r).testBit y = true := by
      rw [mask_bit, List.any_eq_true]
      exact ⟨y, hy, by simp⟩
    rw [fg_eq, b] at z
    cases z
theorem push_len (m k : Nat) : ∀ l : List Nat, (pushN m k l).length = l.length
  | [] => rfl
  | c :: r => by
    show (pN m k c :: pushN m k r).length = _
    rw [List.length_cons, List.length_cons, push_len m k r]
theorem push_lt (m k : Nat) : ∀ l : List Nat, (∀ c ∈ l, c < 8) → ∀ c ∈ pushN m k l, c < 8
  | [], _, _, h => nomatch h
  | a :: r, hl, c, h => by
    have h' : c ∈ pN m k a :: pushN m k r := h
    rcases List.mem_cons.mp h' with rfl | h'
    · have := hl a (.head _)
      exact Nat.lt_of_le_of_lt (Nat.sub_le _ _) this
    · exact push_lt m k r (fun x hx => hl x (.tail _ hx)) c h'
theorem go_len : ∀ (ks l : List Nat), (ks.foldl goN l).length = l.length
  | [], _ => rfl
  | k :: r, l => by
    show (r.foldl goN (goN l k)).length = _
    rw [go_len r, goN, push_len]
theorem go_lt : ∀ (ks l : List Nat), (∀ c ∈ l, c < 8) → ∀ c ∈ ks.foldl goN l, c < 8
  | [], _, h => h
  | k :: r, l, h => go_lt r (goN l k) (push_lt _ _ l h)
theorem chkH_at : ∀ (ks l : List Nat), chkH ks l = true → ∀ i, i ≤ ks.length → ndp ((ks.take i).foldl goN l) = true ∧ (i < ks.length → edN ((ks.take i).foldl goN l) ≤ edN ((ks.take (i + 1)).foldl goN l))
  | [], l, h, i, hi => by
    have : i = 0 := Nat.le_zero.mp hi
    subst this
    exact ⟨h, fun q => absurd q (Nat.lt_irrefl 0)⟩
  | k :: r, l, h, i, hi => by
    have h' : an (ndp l) (an (Nat.ble (edN l) (edN (goN l k))) (chkH r (goN l k))) = true := h
    obtain ⟨h1, h2⟩ := and_both h'
    obtain ⟨h2, h3⟩ := and_both h2
    cases i with
    | zero => exact ⟨h1, fun _ => Nat.le_of_ble_eq_true h2⟩
    | succ i =>
      obtain ⟨a, b⟩ := chkH_at r (goN l k) h3 i (Nat.le_of_succ_le_succ hi)
      exact ⟨a, fun q => b (Nat.lt_of_succ_lt_succ q)⟩
theorem hs_NL {n : Nat} (h : n < 256) (i : Nat) : hs n i = NL (([0, 1, 2, 0, 1].take i).foldl goN (lotN n)) := by
  unfold hs
  rw [lot_NL h, ← go_NL]
  congr 1
  show (NL [0, 1, 2, 0, 1]).take i = _
  exact (List.map_take ..).symm
theorem hs_facts {n i : Nat} (h : n < 256) (hi : i < 6) : (hs n i).length = (lot n).length ∧ (hs n i).Nodup ∧ (∀ x ∈ hs n i, 0 ≤ x ∧ x < 8) := by
  rw [hs_NL h]
  refine ⟨?_, ndp_nodup _ (chkH_at _ _ (allN_at allH n h) i (Nat.le_of_lt_succ hi)).1, fun x hx => ?_⟩
  · rw [NL_len, go_len, lot_NL h, NL_len]
  · obtain ⟨c, hc, rfl⟩ := List.mem_map.mp hx
    have := go_lt _ _ (fun c hc => lotN_lt hc) c hc
    exact ⟨Int.natCast_nonneg _, Int.ofNat_lt.mpr this⟩
theorem hs_edges {n i : Nat} (h : n < 256) (hi : i < 5) : edges (hs n i) ≤ edges (hs n (i + 1)) := by
  rw [hs_NL h, hs_NL h, ed_NL, ed_NL]
  exact (chkH_at _ _ (allN_at allH n h) i (Nat.le_of_lt hi)).2 hi
theorem ks5_at {i : Nat} {k : Int} (h : ks5[i]? = some k) : i < 5 ∧ 0 ≤ k ∧ k < 3 := by
  have hi : i < 5 := (List.getElem?_eq_some_iff.mp h).1
  refine ⟨hi, ?_⟩
  have all : ∀ i : Fin 5, 0 ≤ ks5.getD i.val 9 ∧ ks5.getD i.val 9 < 3 := by decide +kernel
  have := all ⟨i, hi⟩
  simpa [List.getD, h] using this
end Mine
end
section
open PySem PySem.W PyProof.Rows PySem.Calls
set_option maxRecDepth 100000
namespace Mine
local macro_rules | `(tactic| walk_at "mine enter") => `(tactic| (refine' call_raw ?k1 ?k2 ?k3 ?k4 ?k5 ?kA ?kF ?kK ?k6 ?k7 ?k8 ?k9 ?kB ?_ ?c2 ?c3 ?c4 ?c5; (case kA => exact rfl); (case kF => exact rfl); (case kK => assumption); (case k1 => k_asm); (case k2 => k_asm); (case k3 => k_asm); (case k4 => k_asm); (case k5 => k_asm); (case k6 => k_is); (case k7 => k_is); (case k8 => ktr_room); (case k9 => exact BindsTo.of_eq rfl); (case c5 => decide); (case kB => exact locs rfl); (case c2 => exact rfl); (case c3 => exact rfl); (case c4 => exact rfl); k_whole; intro L' h' tk' FG' F' N' B' X' T' st' lt'; (try k_lt lt'); (try dsimp only); (try k_lift B'); (try k_fold)))
local macro_rules | `(tactic| walk_at "mine steps") => `(tactic| repeat' (first | (k_unfold; (try dsimp only)) | ((fail_if_success (with_reducible show wpAny _ _ (pyIter (Value.ref _)) _ _ _)); (fail_if_success (with_reducible show InvEndN _ _ _ _ _ _ _)); (fail_if_success (with_reducible show UnrEnd _ _ _ _ _ _ _)); (fail_if_success (with_reducible show _ ∧ Keeps _ _)); (fail_if_success (with_reducible show ∃ _, _)); (fail_if_success (with_reducible show wpAny _ _ (exec (Stmt.Assign _ (PySem.Expr.ListComp _ _ _ _) _) _) _ _ _)); (fail_if_success (with_reducible show wpAny _ _ (execs (Stmt.Assign [PySem.Expr.Tuple _ _ _] (PySem.Expr.Tuple _ _ _) _ :: _) _) _ _ _)); (fail_if_success (with_reducible show wpAny _ _ (subscriptTail _ (PySem.Expr.Slice _ _ _ _) _ _) _ _ _)); (fail_if_success (with_reducible show wpAny _ _ (binaryOp Operator.Add (Value.ref _) (Value.ref _)) _ _ _)); (fail_if_success (with_reducible show wpAny _ _ (PySem.call (Value.ref _) _ _) _ _ _)); (fail_if_success (with_reducible show wpAny _ _ (eval (Expr.ListComp _ _ _ _) _) _ _ _)); first | walk1 | (dsimp only; walk1)) | fail "no step"))
local macro_rules | `(tactic| walk_at "execs cons") => `(tactic| ((with_reducible refine wpAny_execs_cons ?_); try dsimp only))
local macro_rules | `(tactic| walk_at "execs nil") => `(tactic| (with_reducible refine wpAny_execs_nil ?_))
local macro_rules | `(tactic| k_all) => `(tactic| assumption)
local macro_rules | `(tactic| walk_at "mine enterC") => `(tactic| (refine' call_rawC ?k1 ?k2 ?k3 ?k4 ?k5 ?kA ?kF ?kK ?k6 ?k7 ?k8 ?k9 ?kB ?kD ?_ ?c2 ?c3 ?c4; (case kA => exact rfl); (case kF => exact rfl); (case kK => assumption); (case k1 => k_asm); (case k2 => k_asm); (case k3 => k_asm); (case k4 => k_asm); (case k5 => k_asm); (case k6 => k_is); (case k7 => k_is); (case k8 => ktr_room); (case k9 => exact BindsTo.of_eq rfl); (case kB => exact rfl); (case kD => decide +kernel); (case c2 => exact rfl); (case c3 => exact rfl); (case c4 => exact rfl); k_whole; intro L' h' tk' cells' FG' F' N' Y' B' X' T' st' lt'; (try k_lt lt'); k_cells Y'; (try simp only [List.cons_append, List.nil_append] at N'); (try dsimp only); (try k_lift B'); (try k_fold)))
local macro_rules | `(tactic| walk_at "mine stepsD") => `(tactic| repeat' (first | (k_unfold; (try dsimp only)) | ((fail_if_success (with_reducible show wpAny _ _ (pyIter (Value.ref _)) _ _ _)); (fail_if_success (with_reducible show InvEndN _ _ _ _ _ _ _)); (fail_if_success (with_reducible show UnrEnd _ _ _ _ _ _ _)); (fail_if_success (with_reducible show _ ∧ Keeps _ _)); (fail_if_success (with_reducible show ∃ _, _)); (fail_if_success (with_reducible show wpAny _ _ (exec (Stmt.Assign _ (PySem.Expr.ListComp _ _ _ _) _) _) _ _ _)); (fail_if_success (with_reducible show wpAny _ _ (execs (Stmt.Assign [PySem.Expr.Tuple _ _ _] (PySem.Expr.Tuple _ _ _) _ :: _) _) _ _ _)); (fail_if_success (with_reducible show wpAny _ _ (subscriptTail _ (PySem.Expr.Slice _ _ _ _) _ _) _ _ _)); (fail_if_success (with_reducible show wpAny _ _ (binaryOp Operator.Add (Value.ref _) (Value.ref _)) _ _ _)); (fail_if_success (with_reducible show wpAny _ _ (PySem.call (Value.ref _) _ _) _ _ _)); (fail_if_success (with_reducible show wpAny _ _ (eval (Expr.ListComp _ _ _ _) _) _ _ _)); (try dsimp only); walk1) | fail "no step"))
local macro_rules | `(tactic| walk_at "mine enterN") => `(tactic| (refine' call_rawN ?k1 ?k2 ?k3 ?k4 ?k5 ?kA ?kF ?kK ?k6 ?k7 ?k8 ?k9 ?kB ?_ ?c2 ?c3 ?c4 ?c5; (case kA => exact rfl); (case kF => exact rfl); (case kK => assumption); (case k1 => k_asm); (case k2 => k_asm); (case k3 => k_asm); (case k4 => k_asm); (case k5 => k_asm); (case k6 => k_mem); (case k7 => exact codeRec_news (by k_asm) (by k_mem) (by assumption) (by assumption)); (case k8 => ktr_room); (case k9 => exact BindsTo.of_eq rfl); (case c5 => decide); (case kB => exact locs rfl); (case c2 => exact rfl); (case c3 => exact rfl); (case c4 => exact rfl); k_whole; intro L' h' tk' FG' F' N' B' X' T' st' lt'; (try k_lt lt'); (try dsimp only); (try k_lift B'); (try k_fold)))
local macro_rules | `(tactic| walk_at "subscriptTail Name Name ref int") => `(tactic| (k_here; (with_unfolding_all refine' item_ints ?k1 ?k2 ?k3 ?k4 ?k5 ?_ ?k6; (case k1 => first | exact is_list_of (by with_reducible assumption) (by with_reducible assumption) | exact isList_of (by with_reducible assumption) (by k_mem)); (case k2 => with_reducible assumption); (case k3 => omega); (case k4 => omega); (case k5 => omega); (case k6 => with_unfolding_all rfl); k_whole); intro tI))
local macro_rules | `(tactic| walk_at "call builtin:len") => `(tactic| (k_here; (with_reducible show wpAny _ _ (PySem.call (Value.builtin _) [Value.ref _]) _ _ _); k_dflt (refine' len_known ?k1 ?k2 ?k3 ?k4 ?_; (case k1 => k_asm); (case k2 => k_mem); (case k3 => first | with_reducible assumption | exact IntsAre.length (by with_reducible assumption)); (case k4 => omega); k_whole)))
local macro_rules | `(tactic| walk_at "exec For Name Call cons nil") => `(tactic| (k_here; (rename Fr _ _ _ _ => lF'); (with_unfolding_all refine' For_invVF (hE := ?kE) lF' ?k1 ?k2 ?_; (case kE => first | with_reducible assumption | passes_own); (case k1 => exact rfl); (case k2 => exact rfl); k_whole)))
local macro_rules | `(tactic| walk_at "exec For Name List cons nil") => `(tactic| (k_here; (rename Fr _ _ _ _ => lF'); (with_unfolding_all refine' For_invVF (hE := ?kE) lF' ?k1 ?k2 ?_; (case kE => first | with_reducible assumption | passes_own); (case k1 => exact rfl); (case k2 => exact rfl); k_whole)))
section
variable {w : World} {p : Program} {loose : List Str} {mean : ExcName → Option Value} {mg mb : Str → Option Value}
  {dp un : Nat} {gd : Option (List Code)} {fa : Addr} {cd : Value} {outer : List Env} {A₀ : Around} {base h₀ : Heap} {L : Addr} {m : Str → Option Value} {s : Shared} {Q : Flow → Shared → Prop} {E : Value → Shared → Prop}
  {sc : Scope} {n : Nat} {c1 c9 D : Addr} {oc1 oc9 o1 o2 o3 o4 : Obj} {vs1 vs9 : Array Value} {tq1 tq9 : Tok} {lv : List Value} {ver : Nat} {v1 v3 v4 : Option Value}
variable (B : Below A₀ base outer h₀) (X : (hd.heap_39 w.params).In h₀) (T : Top p loose mean mg mb h₀) (hdp : dp + 50 < recursionLimit) (hun : un + 400 < cLine)
  (C20 : CodeHd h₀ 20 16) (C27 : CodeHd h₀ 27 23) (l16 : @LT.lt Nat _ 23 L ∧ @LT.lt Nat _ 16 L)
  (hoc1 : oc1.data = .fields vs1) (hq1 : vs1[1]? = some (.str (Str.ofString "_int2digits.<locals>.inner") tq1)) (hoc9 : oc9.data = .fields vs9) (hq9 : vs9[1]? = some (.str (Str.ofString "_digits2int.<locals>.inner") tq9))
  (d1 : o1.data = .cell v1) (d2 : o2.data = .cell (some (.ref D))) (d3 : o3.data = .cell v3) (d4 : o4.data = .cell v4)
  (hn : n < 256) (hlv : IntsAre lv (lot n))
  (nD : @Ne Nat c9 D ∧ @Ne Nat 23 D ∧ @Ne Nat c1 D ∧ @Ne Nat 16 D ∧ @Ne Nat (L + 1 + 1 + 1 + 1) D ∧ @Ne Nat (L + 1 + 1 + 1) D ∧ @Ne Nat (L + 1 + 1) D ∧ @Ne Nat (L + 1) D)
  (n9 : @Ne Nat 23 c9 ∧ @Ne Nat c1 c9 ∧ @Ne Nat 16 c9 ∧ @Ne Nat (L + 1 + 1 + 1 + 1) c9 ∧ @Ne Nat (L + 1 + 1 + 1) c9 ∧ @Ne Nat (L + 1 + 1) c9 ∧ @Ne Nat (L + 1) c9)
  (n1 : @Ne Nat 23 c1 ∧ @Ne Nat 16 c1 ∧ @Ne Nat (L + 1 + 1 + 1 + 1) c1 ∧ @Ne Nat (L + 1 + 1 + 1) c1 ∧ @Ne Nat (L + 1 + 1) c1 ∧ @Ne Nat (L + 1) c1)
include B X T hdp hun C20 C27 l16 hoc1 hq1 hoc9 hq9 d1 d2 d3 d4 hn hlv nD n9 n1
set_option maxHeartbeats 40000000 in
theorem law_B {s4 s5 s6 : Stmt} {rest : List Stmt} (hS : lawScope = some sc) (hB : lawBody.drop 4 = s4 :: s5 :: s6 :: rest)
  (F : Fr h₀ L s.heap m) (N : News h₀ L s.heap [(D, W.listOf lv.toArray ver), (c9, oc9), (23, tabObj #[rawInt 20, rawInt 4, .ref c9]), (c1, oc1), (16, tabObj #[rawInt 5, rawInt 4, .ref c1]), (L + 1 + 1 + 1 + 1, o4), (L + 1 + 1 + 1, o3), (L + 1 + 1, o2), (L + 1, o1)])
  (hE : PassesOwn (model PySem.Challenge.rw_hn0001_01.row.prog w) (ktrTop dp un gd (Str.ofString "law") sc L fa cd (cellsFrom (L + 1) sc.names []) outer) (envOfC (Str.ofString "law") sc L fa cd) E)
  (hnext : ∀ (lf tw d : Addr) (od : Obj) (ff : List Value) (fv tn : Nat) (t1 t2 t3 t4 ti : Tok) (h : Heap) (tk : Nat) (m' : Str → Option Value), Fr h₀ L h m' →
      News h₀ L h [(lf, W.listOf ff.toArray fv), (tw, ⟨.type "tuple", none, .seq #[.int (wt (min 9 8) : Nat) t1, .int (min 9 8 : Nat) t2, .int 0 t3, .int 0 t4, .ref d] tn, #[]⟩), (d, od), (D, W.listOf lv.toArray ver), (c9, oc9), (23, tabObj #[rawInt 20, rawInt 4, .ref c9]), (c1, oc1), (16, tabObj #[rawInt 5, rawInt 4, .ref c1]), (L + 1 + 1 + 1 + 1, o4), (L + 1 + 1 + 1, o3), (L + 1 + 1, o2), (L + 1, o1)] →
      IntsAre ff (wts 9) → m' (Str.ofString "whole") = some (.ref tw) → m' (Str.ofString "firsts") = some (.ref lf) → m' (Str.ofString "within") = some (.int (edges (lot n) : Nat) ti) →
      wpAny (model PySem.Challenge.rw_hn0001_01.row.prog w) (ktrTop dp un gd (Str.ofString "law") sc L fa cd (cellsFrom (L + 1) sc.names []) outer) (execs rest (envOfC (Str.ofString "law") sc L fa cd)) Q E { s with heap := h, toks := tk }) :
  wpAny (model PySem.Challenge.rw_hn0001_01.row.prog w) (ktrTop dp un gd (Str.ofString "law") sc L fa cd (cellsFrom (L + 1) sc.names []) outer) (execs (s4 :: s5 :: s6 :: rest) (envOfC (Str.ofString "law") sc L fa cd)) Q E s := by
  injection hS with eS
  injection hB with e4 hB
  injection hB with e5 hB
  injection hB with e6 e7
  subst eS e4 e5 e6
  revert X
  k_fill
  intro X
  refine wpAny_execs_cons ?_
  w_top off
  walk_at "mine stepsD"
  refine edges_spec w B F X T (by rfl) (by omega) (by omega) (isList_of N (.head _)) hlv (lot_len n) (fun x hx => lot_mem hx) ?_
  intro h1 tk1 r1 ws1 v1' s1 e1 hw1 f1
  obtain ⟨F2, N2, n2, l2⟩ := grow F N s1 e1 f1
  simp only [AllNe, and_true] at n2
  have hwl : edges (lot n) ≤ 24 := edges_le8 (lot_len n)
  clear F N
  walk_at "mine stepsD"
  rename Fr _ _ _ _ => F3
  rename News _ _ _ _ => N3
  have N4 := news_pickB N3
  k_dflt (refine iter_rangeG (n := 9) (inB w _ _ _) (by rfl) (by assumption) (by rfl) (by rfl) F3 N4 ⟨⟨[], 0, _, _, _, _, _, _, _, _, rfl, .nil, ⟨by assumption, by assumption, .nil, by assumption, .nil⟩, neN (by omega), neN (by omega), rfl⟩, rfl, rfl⟩ ?_ ?_)
  · clear F3 N3 N4
    rintro i I t h tk m₁ nx hi ⟨⟨ff, fv, t1, t2, t3, t4, tn, tw, d, od, rfl, hff, hEm, hne1, hne2, hm1⟩, hm2, hm3⟩ hI F1 N1
    rw [fix3 hm1 hm2 hm3, Int.zero_add] at F1
    k_fold
    rw [show min i 8 = i by omega] at N1
    have hff2 : IntsAre (ff ++ [Value.int (wt i : Nat) t1]) (wts (i + 1)) := by rw [wts_succ]; exact hff.append (.cons _ _ .nil)
    have hfl : ff.length ≤ 1000 := by rw [hff.length, wts_len]; omega
    have hI0 := hI
    simp only [AllNe, and_true] at hI
    walk_at "mine stepsD"
    rename Fr _ _ _ _ => F2
    rename News _ _ _ _ => N2
    rename IntsAre _ (rangeKs _ _) => hI2
    rw [show ((i : Int) - 0).toNat = i by omega] at hI2
    refine edges_spec w B F2 X T (by rfl) (by omega) (by omega) (isList_of N2 (.head _)) hI2 (by rw [rangeKs_length]; omega) (fun x hx => by have := mem_rangeKs hx; omega) ?_
    intro h3 tk3 r3 ws3 v3' s3 e3 hw3 f3
    obtain ⟨F4, N4, n4, l4⟩ := grow F2 N2 s3 e3 f3
    simp only [AllNe, and_true] at n4
    have hw4 : edges (rangeKs 0 i) ≤ 24 := edges_le8 (by rw [rangeKs_length]; omega)
    clear F2 N2
    walk_at "mine stepsD"
    · rename _ ≠ _ => hbad
      exact absurd (congrArg Nat.cast (wt_edges hi)) hbad
    rename Fr _ _ _ _ => F5
    rename News _ _ _ _ => N5
    refine i2d_hit w (c1 := c1) (oc1 := oc1) B F5 X T (by rfl) (by omega) (by omega) (news_sub N5 fun p hp => by simp only [List.mem_cons, List.not_mem_nil, or_false] at hp; rcases hp with rfl | rfl <;> k_mem) hoc1 hq1 C20 (x := i) (by omega) ?_
    intro h6 tk6 r6 ws6 v6' s6 e6 hw6 f6
    obtain ⟨F6, N6, n6, l6⟩ := grow F5 N5 s6 e6 f6
    simp only [AllNe, and_true] at n6
    have hdl := digs_len (x := i) (by omega)
    clear F5 N5
    walk_at "mine stepsD"
    · rename _ < (_ : Int) => hbad
      exact absurd (wt_twice hi) (Int.not_le.mpr hbad)
    · rename Fr _ _ _ _ => F7
      rename News _ _ _ _ => N7
      have hi8 : i < 8 := by omega
      refine corner_spec w (c1 := c1) (oc1 := oc1) B F7 X T (by rfl) (by omega) (by omega) (news_sub N7 fun p hp => by simp only [List.mem_cons, List.not_mem_nil, or_false] at hp; rcases hp with rfl | rfl <;> k_mem) hoc1 hq1 C20 (x := i) (by omega) ?_
      intro h8 tk8 r8 ws8 v8' s8 e8 hw8 f8
      obtain ⟨F8, N8, n8, l8⟩ := grow F7 N7 s8 e8 f8
      simp only [AllNe, and_true] at n8
      have hcl := corner_len i
      clear F7 N7
      walk_at "mine stepsD"
      rename Fr _ _ _ _ => F9
      rename News _ _ _ _ => N9
      refine stats_spec w B F9 X T (by rfl) (by omega) (by omega) (news_of4 N9 (by k_mem) (by k_mem) (by k_mem) (by k_mem)) hEm ⟨by assumption, by assumption, .nil, by assumption, .nil⟩ ?_
      intro h10 tk10 q10 d10 o10 u1 u2 u3 u4 s10 eq10 ed10 hEm2 fq10 fd10 nqd
      rw [wt_next hi8, show (1 : Int) + (i : Nat) = ((i + 1 : Nat) : Int) by omega, Int.add_zero] at eq10
      obtain ⟨F10, N10, n10, n11, l10, l11⟩ := grow2 F9 N9 s10 eq10 fq10 ed10 fd10
      clear F9 N9
      walk_at "mine stepsD"
      rename Fr _ _ _ _ => F11
      rename News _ _ _ _ => N11
      rw [List.push_toArray] at N11
      refine UnrEnd.intro F11 N11 ((_, W.listOf (ff ++ [Value.int (wt i : Nat) t1]).toArray (fv + 1)) :: (q10, _) :: (d10, o10) :: _) (fun p hp => ?_) (ne_of_allNe ⟨hI0.1, Ne.symm n10.2.2.2.2.2.2.1, Ne.symm n11.2.2.2.2.2.2.1, hI0.2.2.2⟩) (inB_next (t1 := u1) (t2 := u2) (t3 := u3) (t4 := u4) (tn := 0) (by omega) hff2 hEm2 (Ne.symm n10.2.2.2.2.2.2.2.1) (Ne.symm n11.2.2.2.2.2.2.2.1) rfl rfl rfl)
      simp only [List.mem_cons, List.not_mem_nil, or_false] at hp
      rcases hp with rfl | rfl | rfl | rfl | rfl | rfl | rfl | rfl | rfl | rfl | rfl | rfl | rfl <;> k_mem
    · rename Fr _ _ _ _ => F7
      rename News _ _ _ _ => N7
      have hi8 : i = 8 := by omega
      rw [List.push_toArray] at N7
      subst hi8
      refine UnrEnd.intro F7 N7 ((_, W.listOf (ff ++ [Value.int (wt 8 : Nat) t1]).toArray (fv + 1)) :: (tw, _) :: (d, od) :: _) (fun p hp => ?_) (ne_of_allNe hI0) ⟨⟨_, _, t1, t2, t3, t4, _, tw, d, od, rfl, hff2, hEm, hne1, hne2, rfl⟩, rfl, rfl⟩
      simp only [List.mem_cons, List.not_mem_nil, or_false] at hp
      rcases hp with rfl | rfl | rfl | rfl | rfl | rfl | rfl | rfl | rfl | rfl | rfl | rfl | rfl <;> k_mem
  · clear F3 N3 N4
    rintro m₁ nx h tk ⟨⟨ff, fv, t1, t2, t3, t4, tn, tw, d, od, rfl, hff, hEm, hne1, hne2, hm1⟩, hm2, hm3⟩ F1 N1
    exact hnext _ _ _ _ _ _ _ _ _ _ _ _ _ _ _ F1 N1 hff hm1 hm2 hm3
end
end Mine
end
section
open PySem PySem.W PyProof.Rows PySem.Calls
set_option maxRecDepth 100000
namespace Mine
local macro_rules | `(tactic| walk_at "mine enter") => `(tactic| (refine' call_raw ?k1 ?k2 ?k3 ?k4 ?k5 ?kA ?kF ?kK ?k6 ?k7 ?k8 ?k9 ?kB ?_ ?c2 ?c3 ?c4 ?c5; (case kA => exact rfl); (case kF => exact rfl); (case kK => assumption); (case k1 => k_asm); (case k2 => k_asm); (case k3 => k_asm); (case k4 => k_asm); (case k5 => k_asm); (case k6 => k_is); (case k7 => k_is); (case k8 => ktr_room); (case k9 => exact BindsTo.of_eq rfl); (case c5 => decide); (case kB => exact locs rfl); (case c2 => exact rfl); (case c3 => exact rfl); (case c4 => exact rfl); k_whole; intro L' h' tk' FG' F' N' B' X' T' st' lt'; (try k_lt lt'); (try dsimp only); (try k_lift B'); (try k_fold)))
local macro_rules | `(tactic| walk_at "mine steps") => `(tactic| repeat' (first | (k_unfold; (try dsimp only)) | ((fail_if_success (with_reducible show wpAny _ _ (pyIter (Value.ref _)) _ _ _)); (fail_if_success (with_reducible show InvEndN _ _ _ _ _ _ _)); (fail_if_success (with_reducible show UnrEnd _ _ _ _ _ _ _)); (fail_if_success (with_reducible show _ ∧ Keeps _ _)); (fail_if_success (with_reducible show ∃ _, _)); (fail_if_success (with_reducible show wpAny _ _ (exec (Stmt.Assign _ (PySem.Expr.ListComp _ _ _ _) _) _) _ _ _)); (fail_if_success (with_reducible show wpAny _ _ (execs (Stmt.Assign [PySem.Expr.Tuple _ _ _] (PySem.Expr.Tuple _ _ _) _ :: _) _) _ _ _)); (fail_if_success (with_reducible show wpAny _ _ (subscriptTail _ (PySem.Expr.Slice _ _ _ _) _ _) _ _ _)); (fail_if_success (with_reducible show wpAny _ _ (binaryOp Operator.Add (Value.ref _) (Value.ref _)) _ _ _)); (fail_if_success (with_reducible show wpAny _ _ (PySem.call (Value.ref _) _ _) _ _ _)); (fail_if_success (with_reducible show wpAny _ _ (eval (Expr.ListComp _ _ _ _) _) _ _ _)); first | walk1 | (dsimp only; walk1)) | fail "no step"))
local macro_rules | `(tactic| walk_at "execs cons") => `(tactic| ((with_reducible refine wpAny_execs_cons ?_); try dsimp only))
local macro_rules | `(tactic| walk_at "execs nil") => `(tactic| (with_reducible refine wpAny_execs_nil ?_))
local macro_rules | `(tactic| k_all) => `(tactic| assumption)
local macro_rules | `(tactic| walk_at "mine enterC") => `(tactic| (refine' call_rawC ?k1 ?k2 ?k3 ?k4 ?k5 ?kA ?kF ?kK ?k6 ?k7 ?k8 ?k9 ?kB ?kD ?_ ?c2 ?c3 ?c4; (case kA => exact rfl); (case kF => exact rfl); (case kK => assumption); (case k1 => k_asm); (case k2 => k_asm); (case k3 => k_asm); (case k4 => k_asm); (case k5 => k_asm); (case k6 => k_is); (case k7 => k_is); (case k8 => ktr_room); (case k9 => exact BindsTo.of_eq rfl); (case kB => exact rfl); (case kD => decide +kernel); (case c2 => exact rfl); (case c3 => exact rfl); (case c4 => exact rfl); k_whole; intro L' h' tk' cells' FG' F' N' Y' B' X' T' st' lt'; (try k_lt lt'); k_cells Y'; (try simp only [List.cons_append, List.nil_append] at N'); (try dsimp only); (try k_lift B'); (try k_fold)))
local macro_rules | `(tactic| walk_at "mine stepsD") => `(tactic| repeat' (first | (k_unfold; (try dsimp only)) | ((fail_if_success (with_reducible show wpAny _ _ (pyIter (Value.ref _)) _ _ _)); (fail_if_success (with_reducible show InvEndN _ _ _ _ _ _ _)); (fail_if_success (with_reducible show UnrEnd _ _ _ _ _ _ _)); (fail_if_success (with_reducible show _ ∧ Keeps _ _)); (fail_if_success (with_reducible show ∃ _, _)); (fail_if_success (with_reducible show wpAny _ _ (exec (Stmt.Assign _ (PySem.Expr.ListComp _ _ _ _) _) _) _ _ _)); (fail_if_success (with_reducible show wpAny _ _ (execs (Stmt.Assign [PySem.Expr.Tuple _ _ _] (PySem.Expr.Tuple _ _ _) _ :: _) _) _ _ _)); (fail_if_success (with_reducible show wpAny _ _ (subscriptTail _ (PySem.Expr.Slice _ _ _ _) _ _) _ _ _)); (fail_if_success (with_reducible show wpAny _ _ (binaryOp Operator.Add (Value.ref _) (Value.ref _)) _ _ _)); (fail_if_success (with_reducible show wpAny _ _ (PySem.call (Value.ref _) _ _) _ _ _)); (fail_if_success (with_reducible show wpAny _ _ (eval (Expr.ListComp _ _ _ _) _) _ _ _)); (try dsimp only); walk1) | fail "no step"))
local macro_rules | `(tactic| walk_at "mine enterN") => `(tactic| (refine' call_rawN ?k1 ?k2 ?k3 ?k4 ?k5 ?kA ?kF ?kK ?k6 ?k7 ?k8 ?k9 ?kB ?_ ?c2 ?c3 ?c4 ?c5; (case kA => exact rfl); (case kF => exact rfl); (case kK => assumption); (case k1 => k_asm); (case k2 => k_asm); (case k3 => k_asm); (case k4 => k_asm); (case k5 => k_asm); (case k6 => k_mem); (case k7 => exact codeRec_news (by k_asm) (by k_mem) (by assumption) (by assumption)); (case k8 => ktr_room); (case k9 => exact BindsTo.of_eq rfl); (case c5 => decide); (case kB => exact locs rfl); (case c2 => exact rfl); (case c3 => exact rfl); (case c4 => exact rfl); k_whole; intro L' h' tk' FG' F' N' B' X' T' st' lt'; (try k_lt lt'); (try dsimp only); (try k_lift B'); (try k_fold)))
local macro_rules | `(tactic| walk_at "subscriptTail Name Name ref int") => `(tactic| (k_here; (with_unfolding_all refine' item_ints ?k1 ?k2 ?k3 ?k4 ?k5 ?_ ?k6; (case k1 => first | exact is_list_of (by with_reducible assumption) (by with_reducible assumption) | exact isList_of (by with_reducible assumption) (by k_mem)); (case k2 => with_reducible assumption); (case k3 => omega); (case k4 => omega); (case k5 => omega); (case k6 => with_unfolding_all rfl); k_whole); intro tI))
local macro_rules | `(tactic| walk_at "call builtin:len") => `(tactic| (k_here; (with_reducible show wpAny _ _ (PySem.call (Value.builtin _) [Value.ref _]) _ _ _); k_dflt (refine' len_known ?k1 ?k2 ?k3 ?k4 ?_; (case k1 => k_asm); (case k2 => k_mem); (case k3 => first | with_reducible assumption | exact IntsAre.length (by with_reducible assumption)); (case k4 => omega); k_whole)))
local macro_rules | `(tactic| walk_at "exec For Name Call cons nil") => `(tactic| (k_here; (rename Fr _ _ _ _ => lF'); (with_unfolding_all refine' For_invVF (hE := ?kE) lF' ?k1 ?k2 ?_; (case kE => first | with_reducible assumption | passes_own); (case k1 => exact rfl); (case k2 => exact rfl); k_whole)))
local macro_rules | `(tactic| walk_at "exec For Name List cons nil") => `(tactic| (k_here; (rename Fr _ _ _ _ => lF'); (with_unfolding_all refine' For_invVF (hE := ?kE) lF' ?k1 ?k2 ?_; (case kE => first | with_reducible assumption | passes_own); (case k1 => exact rfl); (case k2 => exact rfl); k_whole)))
section
variable {w : World} {p : Program} {loose : List Str} {mean : ExcName → Option Value} {mg mb : Str → Option Value}
  {dp un : Nat} {gd : Option (List Code)} {fa : Addr} {cd : Value} {outer : List Env} {A₀ : Around} {base h₀ : Heap} {L : Addr} {m : Str → Option Value} {s : Shared} {Q : Flow → Shared → Prop} {E : Value → Shared → Prop}
  {sc : Scope} {n : Nat} {c1 c9 D : Addr} {oc1 oc9 o1 o2 o3 o4 : Obj} {vs1 vs9 : Array Value} {tq1 tq9 : Tok} {lv : List Value} {ver : Nat} {v1 v3 v4 : Option Value}
variable (B : Below A₀ base outer h₀) (X : (hd.heap_39 w.params).In h₀) (T : Top p loose mean mg mb h₀) (hdp : dp + 50 < recursionLimit) (hun : un + 400 < cLine)
  (C20 : CodeHd h₀ 20 16) (C27 : CodeHd h₀ 27 23) (l16 : @LT.lt Nat _ 23 L ∧ @LT.lt Nat _ 16 L)
  (hoc1 : oc1.data = .fields vs1) (hq1 : vs1[1]? = some (.str (Str.ofString "_int2digits.<locals>.inner") tq1)) (hoc9 : oc9.data = .fields vs9) (hq9 : vs9[1]? = some (.str (Str.ofString "_digits2int.<locals>.inner") tq9))
  (d1 : o1.data = .cell v1) (d2 : o2.data = .cell (some (.ref D))) (d3 : o3.data = .cell v3) (d4 : o4.data = .cell v4)
  (hn : n < 256) (hlv : IntsAre lv (lot n))
  (nD : @Ne Nat c9 D ∧ @Ne Nat 23 D ∧ @Ne Nat c1 D ∧ @Ne Nat 16 D ∧ @Ne Nat (L + 1 + 1 + 1 + 1) D ∧ @Ne Nat (L + 1 + 1 + 1) D ∧ @Ne Nat (L + 1 + 1) D ∧ @Ne Nat (L + 1) D)
  (n9 : @Ne Nat 23 c9 ∧ @Ne Nat c1 c9 ∧ @Ne Nat 16 c9 ∧ @Ne Nat (L + 1 + 1 + 1 + 1) c9 ∧ @Ne Nat (L + 1 + 1 + 1) c9 ∧ @Ne Nat (L + 1 + 1) c9 ∧ @Ne Nat (L + 1) c9)
  (n1 : @Ne Nat 23 c1 ∧ @Ne Nat 16 c1 ∧ @Ne Nat (L + 1 + 1 + 1 + 1) c1 ∧ @Ne Nat (L + 1 + 1 + 1) c1 ∧ @Ne Nat (L + 1 + 1) c1 ∧ @Ne Nat (L + 1) c1)
include B X T hdp hun C20 C27 l16 hoc1 hq1 hoc9 hq9 d1 d2 d3 d4 hn hlv nD n9 n1
set_option maxHeartbeats 40000000 in
theorem law_C {s7 s8 s9 : Stmt} {rest : List Stmt} (hS : lawScope = some sc) (hB : lawBody.drop 7 = s7 :: s8 :: s9 :: rest)
  {lf tw d : Addr} {od : Obj} {ff : List Value} {fv tn : Nat} {t1 t2 t3 t4 ti : Tok} (F : Fr h₀ L s.heap m)
  (N : News h₀ L s.heap [(lf, W.listOf ff.toArray fv), (tw, ⟨.type "tuple", none, .seq #[.int (wt (min 9 8) : Nat) t1, .int (min 9 8 : Nat) t2, .int 0 t3, .int 0 t4, .ref d] tn, #[]⟩), (d, od), (D, W.listOf lv.toArray ver), (c9, oc9), (23, tabObj #[rawInt 20, rawInt 4, .ref c9]), (c1, oc1), (16, tabObj #[rawInt 5, rawInt 4, .ref c1]), (L + 1 + 1 + 1 + 1, o4), (L + 1 + 1 + 1, o3), (L + 1 + 1, o2), (L + 1, o1)])
  (hff : IntsAre ff [0, 0, 1, 2, 4, 5, 7, 9, 12]) (hm1 : m (Str.ofString "whole") = some (.ref tw)) (hm2 : m (Str.ofString "firsts") = some (.ref lf)) (hm3 : m (Str.ofString "within") = some (.int (edges (lot n) : Nat) ti))
  (hE : PassesOwn (model PySem.Challenge.rw_hn0001_01.row.prog w) (ktrTop dp un gd (Str.ofString "law") sc L fa cd (cellsFrom (L + 1) sc.names []) outer) (envOfC (Str.ofString "law") sc L fa cd) E)
  (hnext : ∀ (ti : Tok) (h : Heap) (tk : Nat) (m' : Str → Option Value), Fr h₀ L h m' →
      News h₀ L h [(D, W.listOf lv.toArray ver), (c9, oc9), (23, tabObj #[rawInt 20, rawInt 4, .ref c9]), (c1, oc1), (16, tabObj #[rawInt 5, rawInt 4, .ref c1]), (L + 1 + 1 + 1 + 1, o4), (L + 1 + 1 + 1, o3), (L + 1 + 1, o2), (L + 1, o1)] →
      m' (Str.ofString "within") = some (.int (edges (lot n) : Nat) ti) →
      wpAny (model PySem.Challenge.rw_hn0001_01.row.prog w) (ktrTop dp un gd (Str.ofString "law") sc L fa cd (cellsFrom (L + 1) sc.names []) outer) (execs rest (envOfC (Str.ofString "law") sc L fa cd)) Q E { s with heap := h, toks := tk }) :
  wpAny (model PySem.Challenge.rw_hn0001_01.row.prog w) (ktrTop dp un gd (Str.ofString "law") sc L fa cd (cellsFrom (L + 1) sc.names []) outer) (execs (s7 :: s8 :: s9 :: rest) (envOfC (Str.ofString "law") sc L fa cd)) Q E s := by
  injection hS with eS
  injection hB with e7 hB
  injection hB with e8 hB
  injection hB with e9 e10
  subst eS e7 e8 e9
  revert X
  k_fill
  intro X
  rw [fix3 hm1 hm2 hm3] at F
  have hf1 := hff
  obtain _ | ⟨_, x0, hff⟩ := hff
  obtain _ | ⟨_, x1, hff⟩ := hff
  obtain _ | ⟨_, x2, hff⟩ := hff
  obtain _ | ⟨_, x3, hff⟩ := hff
  obtain _ | ⟨_, x4, hff⟩ := hff
  obtain _ | ⟨_, x5, hff⟩ := hff
  obtain _ | ⟨_, x6, hff⟩ := hff
  obtain _ | ⟨_, x7, hff⟩ := hff
  obtain _ | ⟨_, x8, hff⟩ := hff
  obtain _ | _ := hff
  have hle := lot_len n
  have hwl : edges (lot n) ≤ 24 := edges_le8 (lot_len n)
  have hfit := lot_fits hn
  refine wpAny_execs_cons ?_
  w_top off
  walk_at "mine stepsD"
  · rename _ < (_ : Int) => hbad
    exact absurd hfit (Int.not_le.mpr hbad)
  rename Fr _ _ _ _ => F1
  rename News _ _ _ _ => N1
  have N2 := news_drop4 N1
  refine comp_assign F1 (fun c => !((lot n).any (· == c))) (fun c => c) (by rfl) (by rfl) (by with_unfolding_all rfl) (by with_unfolding_all rfl) (by decide) (by rfl) (by decide) (by rfl) (by rfl) (by rfl) ?_
  clear N1
  walk_at "mine stepsD"
  rename Fr _ _ _ _ => F3
  rename News _ _ _ _ => N3
  refine ⟨rangeKs 0 8, _, .range rfl (by assumption) (by rfl) (by rfl) (by decide), F3, N3, ⟨?_, ?_⟩, ?_⟩
  · intro C oC a t m₂ s₃ E' ha nC hm F4 N4 up
    refine wpAny_tests_one ?_
    have ha' := mem_rangeKs ha
    obtain ⟨ha1, ha2⟩ := ha'
    clear F3 N3
    walk_at "mine stepsD"
    exact ⟨rfl, ⟨_, _, rfl, fun _ _ e => e⟩⟩
  · intro C oC a t m₂ s₃ E' ha hp nC hm F4 N4 up
    clear F3 N3
    walk_at "mine stepsD"
    exact ⟨⟨_, rfl⟩, ⟨_, _, rfl, fun _ _ e => e⟩⟩
  · intro D2 h' tk F4 ⟨ys, v, N4, hys⟩ hne
    rw [List.map_id'] at hys
    clear F3 N3
    walk_at "mine stepsD"
    rename Fr _ _ _ _ => F5
    rename News _ _ _ _ => N5
    refine out_spec w B F5 X T (by rfl) (by omega) (by omega) (isList_of N5 (by k_mem)) hlv (lot_len n) (fun x hx => lot_mem hx) ?_
    intro h5 tk5 t5 s5
    have F6 := F5.keeps s5
    have N6 := newsKeeps N5 s5
    clear F5 N5
    walk_at "mine stepsD"
    · rename _ ≠ _ => hbad
      exact absurd (lot_out hn) hbad
    rename Fr _ _ _ _ => F5
    rename News _ _ _ _ => N5
    refine out_spec w B F5 X T (by rfl) (by omega) (by omega) (isList_of N5 (by k_mem)) hlv (lot_len n) (fun x hx => lot_mem hx) ?_
    intro h6 tk6 t6 s6
    have F6 := F5.keeps s6
    have N6 := newsKeeps N5 s6
    clear F5 N5
    walk_at "mine stepsD"
    rename Fr _ _ _ _ => F5
    rename News _ _ _ _ => N5
    refine out_spec w B F5 X T (by rfl) (by omega) (by omega) (isList_of N5 (by k_mem)) hys (others_len n) (fun x hx => others_mem hx) ?_
    intro h7 tk7 t7 s7
    have F6 := F5.keeps s7
    have N6 := newsKeeps N5 s7
    clear F5 N5
    walk_at "mine stepsD"
    · rename _ ≠ _ => hbad
      exact absurd (lot_both hn) hbad
    rename Fr _ _ _ _ => F5
    rename News _ _ _ _ => N5
    exact hnext _ _ _ _ F5 (news_drop1 N5) rfl
end
end Mine
end
section
open PySem PySem.W PyProof.Rows PySem.Calls
set_option maxRecDepth 100000
namespace Mine
local macro_rules | `(tactic| walk_at "mine enter") => `(tactic| (refine' call_raw ?k1 ?k2 ?k3 ?k4 ?k5 ?kA ?kF ?kK ?k6 ?k7 ?k8 ?k9 ?kB ?_ ?c2 ?c3 ?c4 ?c5; (case kA => exact rfl); (case kF => exact rfl); (case kK => assumption); (case k1 => k_asm); (case k2 => k_asm); (case k3 => k_asm); (case k4 => k_asm); (case k5 => k_asm); (case k6 => k_is); (case k7 => k_is); (case k8 => ktr_room); (case k9 => exact BindsTo.of_eq rfl); (case c5 => decide); (case kB => exact locs rfl); (case c2 => exact rfl); (case c3 => exact rfl); (case c4 => exact rfl); k_whole; intro L' h' tk' FG' F' N' B' X' T' st' lt'; (try k_lt lt'); (try dsimp only); (try k_lift B'); (try k_fold)))
local macro_rules | `(tactic| walk_at "mine steps") => `(tactic| repeat' (first | (k_unfold; (try dsimp only)) | ((fail_if_success (with_reducible show wpAny _ _ (pyIter (Value.ref _)) _ _ _)); (fail_if_success (with_reducible show InvEndN _ _ _ _ _ _ _)); (fail_if_success (with_reducible show UnrEnd _ _ _ _ _ _ _)); (fail_if_success (with_reducible show _ ∧ Keeps _ _)); (fail_if_success (with_reducible show ∃ _, _)); (fail_if_success (with_reducible show wpAny _ _ (exec (Stmt.Assign _ (PySem.Expr.ListComp _ _ _ _) _) _) _ _ _)); (fail_if_success (with_reducible show wpAny _ _ (execs (Stmt.Assign [PySem.Expr.Tuple _ _ _] (PySem.Expr.Tuple _ _ _) _ :: _) _) _ _ _)); (fail_if_success (with_reducible show wpAny _ _ (subscriptTail _ (PySem.Expr.Slice _ _ _ _) _ _) _ _ _)); (fail_if_success (with_reducible show wpAny _ _ (binaryOp Operator.Add (Value.ref _) (Value.ref _)) _ _ _)); (fail_if_success (with_reducible show wpAny _ _ (PySem.call (Value.ref _) _ _) _ _ _)); (fail_if_success (with_reducible show wpAny _ _ (eval (Expr.ListComp _ _ _ _) _) _ _ _)); first | walk1 | (dsimp only; walk1)) | fail "no step"))
local macro_rules | `(tactic| walk_at "execs cons") => `(tactic| ((with_reducible refine wpAny_execs_cons ?_); try dsimp only))
local macro_rules | `(tactic| walk_at "execs nil") => `(tactic| (with_reducible refine wpAny_execs_nil ?_))
local macro_rules | `(tactic| k_all) => `(tactic| assumption)
local macro_rules | `(tactic| walk_at "mine enterC") => `(tactic| (refine' call_rawC ?k1 ?k2 ?k3 ?k4 ?k5 ?kA ?kF ?kK ?k6 ?k7 ?k8 ?k9 ?kB ?kD ?_ ?c2 ?c3 ?c4; (case kA => exact rfl); (case kF => exact rfl); (case kK => assumption); (case k1 => k_asm); (case k2 => k_asm); (case k3 => k_asm); (case k4 => k_asm); (case k5 => k_asm); (case k6 => k_is); (case k7 => k_is); (case k8 => ktr_room); (case k9 => exact BindsTo.of_eq rfl); (case kB => exact rfl); (case kD => decide +kernel); (case c2 => exact rfl); (case c3 => exact rfl); (case c4 => exact rfl); k_whole; intro L' h' tk' cells' FG' F' N' Y' B' X' T' st' lt'; (try k_lt lt'); k_cells Y'; (try simp only [List.cons_append, List.nil_append] at N'); (try dsimp only); (try k_lift B'); (try k_fold)))
local macro_rules | `(tactic| walk_at "mine stepsD") => `(tactic| repeat' (first | (k_unfold; (try dsimp only)) | ((fail_if_success (with_reducible show wpAny _ _ (pyIter (Value.ref _)) _ _ _)); (fail_if_success (with_reducible show InvEndN _ _ _ _ _ _ _)); (fail_if_success (with_reducible show UnrEnd _ _ _ _ _ _ _)); (fail_if_success (with_reducible show _ ∧ Keeps _ _)); (fail_if_success (with_reducible show ∃ _, _)); (fail_if_success (with_reducible show wpAny _ _ (exec (Stmt.Assign _ (PySem.Expr.ListComp _ _ _ _) _) _) _ _ _)); (fail_if_success (with_reducible show wpAny _ _ (execs (Stmt.Assign [PySem.Expr.Tuple _ _ _] (PySem.Expr.Tuple _ _ _) _ :: _) _) _ _ _)); (fail_if_success (with_reducible show wpAny _ _ (subscriptTail _ (PySem.Expr.Slice _ _ _ _) _ _) _ _ _)); (fail_if_success (with_reducible show wpAny _ _ (binaryOp Operator.Add (Value.ref _) (Value.ref _)) _ _ _)); (fail_if_success (with_reducible show wpAny _ _ (PySem.call (Value.ref _) _ _) _ _ _)); (fail_if_success (with_reducible show wpAny _ _ (eval (Expr.ListComp _ _ _ _) _) _ _ _)); (try dsimp only); walk1) | fail "no step"))
local macro_rules | `(tactic| walk_at "mine enterN") => `(tactic| (refine' call_rawN ?k1 ?k2 ?k3 ?k4 ?k5 ?kA ?kF ?kK ?k6 ?k7 ?k8 ?k9 ?kB ?_ ?c2 ?c3 ?c4 ?c5; (case kA => exact rfl); (case kF => exact rfl); (case kK => assumption); (case k1 => k_asm); (case k2 => k_asm); (case k3 => k_asm); (case k4 => k_asm); (case k5 => k_asm); (case k6 => k_mem); (case k7 => exact codeRec_news (by k_asm) (by k_mem) (by assumption) (by assumption)); (case k8 => ktr_room); (case k9 => exact BindsTo.of_eq rfl); (case c5 => decide); (case kB => exact locs rfl); (case c2 => exact rfl); (case c3 => exact rfl); (case c4 => exact rfl); k_whole; intro L' h' tk' FG' F' N' B' X' T' st' lt'; (try k_lt lt'); (try dsimp only); (try k_lift B'); (try k_fold)))
local macro_rules | `(tactic| walk_at "subscriptTail Name Name ref int") => `(tactic| (k_here; (with_unfolding_all refine' item_ints ?k1 ?k2 ?k3 ?k4 ?k5 ?_ ?k6; (case k1 => first | exact is_list_of (by with_reducible assumption) (by with_reducible assumption) | exact isList_of (by with_reducible assumption) (by k_mem)); (case k2 => with_reducible assumption); (case k3 => omega); (case k4 => omega); (case k5 => omega); (case k6 => with_unfolding_all rfl); k_whole); intro tI))
local macro_rules | `(tactic| walk_at "call builtin:len") => `(tactic| (k_here; (with_reducible show wpAny _ _ (PySem.call (Value.builtin _) [Value.ref _]) _ _ _); k_dflt (refine' len_known ?k1 ?k2 ?k3 ?k4 ?_; (case k1 => k_asm); (case k2 => k_mem); (case k3 => first | with_reducible assumption | exact IntsAre.length (by with_reducible assumption)); (case k4 => omega); k_whole)))
local macro_rules | `(tactic| walk_at "exec For Name Call cons nil") => `(tactic| (k_here; (rename Fr _ _ _ _ => lF'); (with_unfolding_all refine' For_invVF (hE := ?kE) lF' ?k1 ?k2 ?_; (case kE => first | with_reducible assumption | passes_own); (case k1 => exact rfl); (case k2 => exact rfl); k_whole)))
local macro_rules | `(tactic| walk_at "exec For Name List cons nil") => `(tactic| (k_here; (rename Fr _ _ _ _ => lF'); (with_unfolding_all refine' For_invVF (hE := ?kE) lF' ?k1 ?k2 ?_; (case kE => first | with_reducible assumption | passes_own); (case k1 => exact rfl); (case k2 => exact rfl); k_whole)))
local macro_rules | `(tactic| walk_at "call builtin:len") => `(tactic| (k_here; (with_reducible show wpAny _ _ (PySem.call (Value.builtin _) [Value.ref _]) _ _ _); k_dflt (refine' len_made ?k1 ?k2 ?k3 ?k4 ?k5 ?k6 ?_; (case k1 => k_asm); (case k2 => k_mem); (case k3 => with_reducible assumption); (case k4 => with_reducible assumption); (case k5 => with_reducible assumption); (case k6 => omega); k_whole)))
local macro_rules | `(tactic| walk_at "mine stepsF") => `(tactic| repeat' (first | (k_unfold; (try dsimp only)) | ((fail_if_success (with_reducible show wpAny _ _ (pyIter (Value.ref _)) _ _ _)); (fail_if_success (with_reducible show InvEndN _ _ _ _ _ _ _)); (fail_if_success (with_reducible show UnrEnd _ _ _ _ _ _ _)); (fail_if_success (with_reducible show _ ∧ Keeps _ _)); (fail_if_success (with_reducible show ∃ _, _)); (fail_if_success (with_reducible show wpAny _ _ (exec (Stmt.Assign _ (PySem.Expr.ListComp _ _ _ _) _) _) _ _ _)); (fail_if_success (with_reducible show wpAny _ _ (execs (Stmt.Assign [PySem.Expr.Tuple _ _ _] (PySem.Expr.Tuple _ _ _) _ :: _) _) _ _ _)); (fail_if_success (with_reducible show wpAny _ _ (subscriptTail _ (PySem.Expr.Slice _ _ _ _) _ _) _ _ _)); (fail_if_success (with_reducible show wpAny _ _ (binaryOp Operator.Add (Value.ref _) (Value.ref _)) _ _ _)); (fail_if_success (with_reducible show wpAny _ _ (PySem.call (Value.ref _) _ _) _ _ _)); (fail_if_success (with_reducible show wpAny _ _ (eval (Expr.ListComp _ _ _ _) _) _ _ _)); (fail_if_success (with_reducible show wpAny _ _ (exec (Stmt.For _ _ _ _ _) _) _ _ _)); (fail_if_success (with_reducible show wpAny _ _ (PySem.call (Value.type "dict") _ _) _ _ _)); (try dsimp only); walk1) | fail "no step"))
noncomputable def inD (n : Nat) (mid back : List (Addr × Obj)) (a3 : Addr) (wi : Value) (i : Nat) (m : Str → Option Value) (nx : List (Addr × Obj)) : Prop :=
  ∃ (a : Addr) (ws : List Value) (v : Nat) (p3 : Obj) (w3 : Option Value), nx = (a, W.listOf ws.toArray v) :: mid ++ (a3, p3) :: back ∧ IntsAre ws (hs n i) ∧ p3.data = .cell w3 ∧ @Ne Nat a3 a ∧ m (Str.ofString "here") = some (.ref a) ∧ m (Str.ofString "within") = some wi
theorem news_again {g h : Heap} {L : Addr} {nx : List (Addr × Obj)} {a : Addr × Obj} (N : News g L h nx) (hm : a ∈ nx) : News g L h (a :: nx) := fun p hp => by
  rcases List.mem_cons.mp hp with rfl | hp
  · exact N _ hm
  · exact N p hp
section
variable {w : World} {p : Program} {loose : List Str} {mean : ExcName → Option Value} {mg mb : Str → Option Value}
  {dp un : Nat} {gd : Option (List Code)} {fa : Addr} {cd : Value} {outer : List Env} {A₀ : Around} {base h₀ : Heap} {L : Addr} {m : Str → Option Value} {s : Shared} {Q : Flow → Shared → Prop} {E : Value → Shared → Prop}
  {sc : Scope} {n : Nat} {c1 c9 D : Addr} {oc1 oc9 o1 o2 o3 o4 : Obj} {vs1 vs9 : Array Value} {tq1 tq9 : Tok} {lv : List Value} {ver : Nat} {v1 v3 v4 : Option Value}
variable (B : Below A₀ base outer h₀) (X : (hd.heap_39 w.params).In h₀) (T : Top p loose mean mg mb h₀) (hdp : dp + 50 < recursionLimit) (hun : un + 400 < cLine)
  (C20 : CodeHd h₀ 20 16) (C27 : CodeHd h₀ 27 23) (l16 : @LT.lt Nat _ 23 L ∧ @LT.lt Nat _ 16 L)
  (hoc1 : oc1.data = .fields vs1) (hq1 : vs1[1]? = some (.str (Str.ofString "_int2digits.<locals>.inner") tq1)) (hoc9 : oc9.data = .fields vs9) (hq9 : vs9[1]? = some (.str (Str.ofString "_digits2int.<locals>.inner") tq9))
  (d1 : o1.data = .cell v1) (d2 : o2.data = .cell (some (.ref D))) (d3 : o3.data = .cell v3) (d4 : o4.data = .cell v4)
  (hn : n < 256) (hlv : IntsAre lv (lot n))
  (nD : @Ne Nat c9 D ∧ @Ne Nat 23 D ∧ @Ne Nat c1 D ∧ @Ne Nat 16 D ∧ @Ne Nat (L + 1 + 1 + 1 + 1) D ∧ @Ne Nat (L + 1 + 1 + 1) D ∧ @Ne Nat (L + 1 + 1) D ∧ @Ne Nat (L + 1) D)
  (n9 : @Ne Nat 23 c9 ∧ @Ne Nat c1 c9 ∧ @Ne Nat 16 c9 ∧ @Ne Nat (L + 1 + 1 + 1 + 1) c9 ∧ @Ne Nat (L + 1 + 1 + 1) c9 ∧ @Ne Nat (L + 1 + 1) c9 ∧ @Ne Nat (L + 1) c9)
  (n1 : @Ne Nat 23 c1 ∧ @Ne Nat 16 c1 ∧ @Ne Nat (L + 1 + 1 + 1 + 1) c1 ∧ @Ne Nat (L + 1 + 1 + 1) c1 ∧ @Ne Nat (L + 1 + 1) c1 ∧ @Ne Nat (L + 1) c1)
include B X T hdp hun C20 C27 l16 hoc1 hq1 hoc9 hq9 d1 d2 d3 d4 hn hlv nD n9 n1
set_option maxHeartbeats 40000000 in
theorem law_D {s10 s11 : Stmt} {rest : List Stmt} (hS : lawScope = some sc) (hB : lawBody.drop 10 = s10 :: s11 :: rest)
  {ti : Tok} (F : Fr h₀ L s.heap m)
  (N : News h₀ L s.heap [(D, W.listOf lv.toArray ver), (c9, oc9), (23, tabObj #[rawInt 20, rawInt 4, .ref c9]), (c1, oc1), (16, tabObj #[rawInt 5, rawInt 4, .ref c1]), (L + 1 + 1 + 1 + 1, o4), (L + 1 + 1 + 1, o3), (L + 1 + 1, o2), (L + 1, o1)])
  (hm3 : m (Str.ofString "within") = some (.int (edges (lot n) : Nat) ti))
  (hE : PassesOwn (model PySem.Challenge.rw_hn0001_01.row.prog w) (ktrTop dp un gd (Str.ofString "law") sc L fa cd (cellsFrom (L + 1) sc.names []) outer) (envOfC (Str.ofString "law") sc L fa cd) E)
  (hnext : ∀ (h : Heap) (tk : Nat) (m' : Str → Option Value) (p3 : Obj) (w3 : Option Value), p3.data = .cell w3 → Fr h₀ L h m' →
      News h₀ L h [(D, W.listOf lv.toArray ver), (c9, oc9), (23, tabObj #[rawInt 20, rawInt 4, .ref c9]), (c1, oc1), (16, tabObj #[rawInt 5, rawInt 4, .ref c1]), (L + 1 + 1 + 1 + 1, o4), (L + 1 + 1 + 1, p3), (L + 1 + 1, o2), (L + 1, o1)] →
      m' (Str.ofString "within") = some (.int (edges (lot n) : Nat) ti) →
      wpAny (model PySem.Challenge.rw_hn0001_01.row.prog w) (ktrTop dp un gd (Str.ofString "law") sc L fa cd (cellsFrom (L + 1) sc.names []) outer) (execs rest (envOfC (Str.ofString "law") sc L fa cd)) Q E { s with heap := h, toks := tk }) :
  wpAny (model PySem.Challenge.rw_hn0001_01.row.prog w) (ktrTop dp un gd (Str.ofString "law") sc L fa cd (cellsFrom (L + 1) sc.names []) outer) (execs (s10 :: s11 :: rest) (envOfC (Str.ofString "law") sc L fa cd)) Q E s := by
  injection hS with eS
  injection hB with e7 hB
  injection hB with e8 hB
  subst eS e7 e8
  revert X
  k_fill
  intro X
  rw [fix1 hm3] at F
  have hle := lot_len n
  have hwl : edges (lot n) ≤ 24 := edges_le8 hle
  refine wpAny_execs_cons ?_
  w_top off
  walk_at "mine stepsF"
  refine For_G h₀ ?_ (by with_reducible assumption)
  walk_at "mine stepsF"
  rename Fr _ _ _ _ => F3
  rename News _ _ _ _ => N3
  have N4 := news_again N3 (.tail _ (.head _))
  k_dflt (refine loopG_list (ns := ks5) (inD n [(_, _), (D, W.listOf lv.toArray ver), (c9, oc9), (23, tabObj #[rawInt 20, rawInt 4, .ref c9]), (c1, oc1), (16, tabObj #[rawInt 5, rawInt 4, .ref c1]), (L + 1 + 1 + 1 + 1, o4)] [(L + 1 + 1, o2), (L + 1, o1)] (L + 1 + 1 + 1) _) (by rfl) (List.mem_cons_of_mem _ (.head _)) (.cons 0 _ (.cons 1 _ (.cons 2 _ (.cons 0 _ (.cons 1 _ .nil))))) F3 N4 ?_ ⟨D, lv, ver, o3, v3, rfl, hlv, d3, nD.2.2.2.2.2.1, rfl, rfl⟩ ?_ ?_)
  · rintro i m₁ nx ⟨a, ws, v, p3, w3, rfl, _⟩
    exact .tail _ (.head _)
  · clear F3 N3 N4
    rintro i k t h tk m₁ nx I oI hk ⟨a, ws, v, p3, w3, rfl, hws, hp3, ha3, hm1, hm2⟩ hI F1 N1
    rw [fix2 hm1 hm2] at F1
    k_fold
    obtain ⟨hi5, hk1, hk2⟩ := ks5_at hk
    obtain ⟨hf1, hf2, hf3⟩ := hs_facts (i := i) hn (by omega)
    obtain ⟨hg1, hg2, hg3⟩ := hs_facts (i := i + 1) hn (by omega)
    have hge := hs_edges hn hi5
    have hI0 := hI
    simp only [List.cons_append, List.nil_append, AllNe, and_true] at hI N1
    refine wpAny_assign_Name ?_
    k_dflt (refine' storeX_C F1 N1 ?c (.tail (Ne.symm hI.2.2.2.2.2.2.2.2.1) (.tail (Ne.symm ha3) (.tail (neN (by omega)) (.tail (Ne.symm nD.2.2.2.2.2.1) (.tail (Ne.symm n9.2.2.2.2.1) (.tail (neN (by omega)) (.tail (Ne.symm n1.2.2.2.1) (.tail (neN (by omega)) (.tail (neN (by omega)) (.head ?r)))))))))) hp3 ?_ ?a ?b; (case a => rfl); (case b => rfl); (case c => rfl); (case r => exact ne_of_allNe ⟨neN (by omega), neN (by omega), trivial⟩))
    intro h8 p3' F8 N8 dp3
    try dsimp only at N8
    clear F1 N1
    walk_at "mine stepsF"
    rename Fr _ _ _ _ => F2
    rename News _ _ _ _ => N2
    refine pushed_spec w B F2 X T (by rfl) (by omega) (by omega) (isList_of N2 (by k_mem)) hws (by omega) hf3 hk1 hk2 ?_
    rw [← hs_succ hk]
    intro h3 tk3 r3 ws3 v3' s3 e3 hw3 f3
    obtain ⟨F4, N4, n4, l4⟩ := grow F2 N2 s3 e3 f3
    simp only [AllNe, and_true] at n4
    clear F2 N2
    walk_at "mine stepsF"
    refine comp_pairs (by rfl) (by decide) (by decide) (by rfl) (by decide) (by rfl) ?_
    walk_at "mine stepsF"
    rename Fr _ _ _ _ => F5
    rename News _ _ _ _ => N5
    refine ⟨r3, ws3, _, rfl, isList_of N5 (by k_mem), hw3, by omega, ?_, ?_⟩
    · intro C a₂ t₂ s₂ m₂ E₂ hn₂ hm₂
      clear F5 N5
      walk_at "mine stepsF"
      unfold newTuple
      refine wpAny_newObj_type ?_ (by size_fits)
      exact ⟨⟨_, t₂, _, rfl, Heap.get?_none_of_le (Nat.le_refl _), ⟨_, Heap.get?_push_size _ rfl, rfl, _, rfl⟩⟩, ⟨_, _, rfl, fun b o e => Heap.get?_push_of_some _ e⟩⟩
    · intro D5 h5 tk5 ys5 f5 hpl5 hP5 s5
      obtain ⟨v5, e5⟩ := id hpl5
      obtain ⟨F6, N6, n6, l6⟩ := grow F5 N5 s5 e5 f5
      simp only [AllNe, and_true] at n6
      clear F5 N5
      walk_at "mine stepsF"
      refine dict_of_pairs (by rfl) hpl5 hP5 hg2 (by omega) ?_
      intro h7 tk7 o7 kvs7 s7 e7 hd7 hl7 f7
      have lo7 := F6.notModules (modules_low (Top.nolimit T))
      obtain ⟨F7, N7, n7, l7⟩ := grow F6 N6 s7 e7 f7
      clear F6 N6
      walk_at "mine stepsF"
      · rename _ ≠ _ => hbad
        exact absurd (by rw [hg1, hf1]) hbad
      rename Fr _ _ _ _ => F8
      rename News _ _ _ _ => N8
      refine edges_spec w B F8 X T (by rfl) (by omega) (by omega) (isList_of N8 (by k_mem)) hw3 (by omega) hg3 ?_
      intro h9 tk9 r9 ws9 v9 s9 e9 hw9 f9
      have hb9 : edges (hs n (i + 1)) ≤ 24 := edges_le8 (by omega)
      obtain ⟨F9, N9, n9', l9⟩ := grow F8 N8 s9 e9 f9
      clear F8 N8
      walk_at "mine stepsF"
      rename Fr _ _ _ _ => F10
      rename News _ _ _ _ => N10
      refine edges_spec w B F10 X T (by rfl) (by omega) (by omega) (isList_of N10 (by k_mem)) hws (by omega) hf3 ?_
      intro h11 tk11 r11 ws11 v11 s11 e11 hw11 f11
      have hb11 : edges (hs n i) ≤ 24 := edges_le8 (by omega)
      obtain ⟨F11, N11, n11, l11⟩ := grow F10 N10 s11 e11 f11
      clear F10 N10
      walk_at "mine stepsF"
      rename Fr _ _ _ _ => F12
      rename News _ _ _ _ => N12
      refine TurnG.next F12 N12 [(r3, W.listOf ws3.toArray v3'), (_, _), (D, W.listOf lv.toArray ver), (c9, oc9), (23, tabObj #[rawInt 20, rawInt 4, .ref c9]), (c1, oc1), (16, tabObj #[rawInt 5, rawInt 4, .ref c1]), (L + 1 + 1 + 1 + 1, o4), (L + 1 + 1 + 1, p3'), (L + 1 + 1, o2), (L + 1, o1)] (fun p hp => ?_) (by simp only [AllNe, and_true]; exact ⟨Ne.symm n4.1, hI.2⟩) ⟨r3, ws3, v3', p3', _, rfl, hw3, dp3, n4.2.2.2.2.2.2.2.2.2.1, rfl, rfl⟩
      simp only [List.mem_cons, List.not_mem_nil, or_false] at hp
      rcases hp with rfl | rfl | rfl | rfl | rfl | rfl | rfl | rfl | rfl | rfl | rfl | rfl <;> k_mem
  · clear F3 N3 N4
    rintro m₁ nx h tk ⟨a, ws, v, p3, w3, rfl, hws, hp3, ha3, hm1, hm2⟩ F1 N1
    exact hnext _ _ _ _ _ hp3 F1 (news_drop1 (news_drop1 N1)) hm2
end
end Mine
end
section
open PySem PySem.W PyProof.Rows PySem.Calls
set_option maxRecDepth 100000
namespace Mine
local macro_rules | `(tactic| walk_at "mine enter") => `(tactic| (refine' call_raw ?k1 ?k2 ?k3 ?k4 ?k5 ?kA ?kF ?kK ?k6 ?k7 ?k8 ?k9 ?kB ?_ ?c2 ?c3 ?c4 ?c5; (case kA => exact rfl); (case kF => exact rfl); (case kK => assumption); (case k1 => k_asm); (case k2 => k_asm); (case k3 => k_asm); (case k4 => k_asm); (case k5 => k_asm); (case k6 => k_is); (case k7 => k_is); (case k8 => ktr_room); (case k9 => exact BindsTo.of_eq rfl); (case c5 => decide); (case kB => exact locs rfl); (case c2 => exact rfl); (case c3 => exact rfl); (case c4 => exact rfl); k_whole; intro L' h' tk' FG' F' N' B' X' T' st' lt'; (try k_lt lt'); (try dsimp only); (try k_lift B'); (try k_fold)))
local macro_rules | `(tactic| walk_at "mine steps") => `(tactic| repeat' (first | (k_unfold; (try dsimp only)) | ((fail_if_success (with_reducible show wpAny _ _ (pyIter (Value.ref _)) _ _ _)); (fail_if_success (with_reducible show InvEndN _ _ _ _ _ _ _)); (fail_if_success (with_reducible show UnrEnd _ _ _ _ _ _ _)); (fail_if_success (with_reducible show _ ∧ Keeps _ _)); (fail_if_success (with_reducible show ∃ _, _)); (fail_if_success (with_reducible show wpAny _ _ (exec (Stmt.Assign _ (PySem.Expr.ListComp _ _ _ _) _) _) _ _ _)); (fail_if_success (with_reducible show wpAny _ _ (execs (Stmt.Assign [PySem.Expr.Tuple _ _ _] (PySem.Expr.Tuple _ _ _) _ :: _) _) _ _ _)); (fail_if_success (with_reducible show wpAny _ _ (subscriptTail _ (PySem.Expr.Slice _ _ _ _) _ _) _ _ _)); (fail_if_success (with_reducible show wpAny _ _ (binaryOp Operator.Add (Value.ref _) (Value.ref _)) _ _ _)); (fail_if_success (with_reducible show wpAny _ _ (PySem.call (Value.ref _) _ _) _ _ _)); (fail_if_success (with_reducible show wpAny _ _ (eval (Expr.ListComp _ _ _ _) _) _ _ _)); first | walk1 | (dsimp only; walk1)) | fail "no step"))
local macro_rules | `(tactic| walk_at "execs cons") => `(tactic| ((with_reducible refine wpAny_execs_cons ?_); try dsimp only))
local macro_rules | `(tactic| walk_at "execs nil") => `(tactic| (with_reducible refine wpAny_execs_nil ?_))
local macro_rules | `(tactic| k_all) => `(tactic| assumption)
local macro_rules | `(tactic| walk_at "mine enterC") => `(tactic| (refine' call_rawC ?k1 ?k2 ?k3 ?k4 ?k5 ?kA ?kF ?kK ?k6 ?k7 ?k8 ?k9 ?kB ?kD ?_ ?c2 ?c3 ?c4; (case kA => exact rfl); (case kF => exact rfl); (case kK => assumption); (case k1 => k_asm); (case k2 => k_asm); (case k3 => k_asm); (case k4 => k_asm); (case k5 => k_asm); (case k6 => k_is); (case k7 => k_is); (case k8 => ktr_room); (case k9 => exact BindsTo.of_eq rfl); (case kB => exact rfl); (case kD => decide +kernel); (case c2 => exact rfl); (case c3 => exact rfl); (case c4 => exact rfl); k_whole; intro L' h' tk' cells' FG' F' N' Y' B' X' T' st' lt'; (try k_lt lt'); k_cells Y'; (try simp only [List.cons_append, List.nil_append] at N'); (try dsimp only); (try k_lift B'); (try k_fold)))
local macro_rules | `(tactic| walk_at "mine stepsD") => `(tactic| repeat' (first | (k_unfold; (try dsimp only)) | ((fail_if_success (with_reducible show wpAny _ _ (pyIter (Value.ref _)) _ _ _)); (fail_if_success (with_reducible show InvEndN _ _ _ _ _ _ _)); (fail_if_success (with_reducible show UnrEnd _ _ _ _ _ _ _)); (fail_if_success (with_reducible show _ ∧ Keeps _ _)); (fail_if_success (with_reducible show ∃ _, _)); (fail_if_success (with_reducible show wpAny _ _ (exec (Stmt.Assign _ (PySem.Expr.ListComp _ _ _ _) _) _) _ _ _)); (fail_if_success (with_reducible show wpAny _ _ (execs (Stmt.Assign [PySem.Expr.Tuple _ _ _] (PySem.Expr.Tuple _ _ _) _ :: _) _) _ _ _)); (fail_if_success (with_reducible show wpAny _ _ (subscriptTail _ (PySem.Expr.Slice _ _ _ _) _ _) _ _ _)); (fail_if_success (with_reducible show wpAny _ _ (binaryOp Operator.Add (Value.ref _) (Value.ref _)) _ _ _)); (fail_if_success (with_reducible show wpAny _ _ (PySem.call (Value.ref _) _ _) _ _ _)); (fail_if_success (with_reducible show wpAny _ _ (eval (Expr.ListComp _ _ _ _) _) _ _ _)); (try dsimp only); walk1) | fail "no step"))
local macro_rules | `(tactic| walk_at "mine enterN") => `(tactic| (refine' call_rawN ?k1 ?k2 ?k3 ?k4 ?k5 ?kA ?kF ?kK ?k6 ?k7 ?k8 ?k9 ?kB ?_ ?c2 ?c3 ?c4 ?c5; (case kA => exact rfl); (case kF => exact rfl); (case kK => assumption); (case k1 => k_asm); (case k2 => k_asm); (case k3 => k_asm); (case k4 => k_asm); (case k5 => k_asm); (case k6 => k_mem); (case k7 => exact codeRec_news (by k_asm) (by k_mem) (by assumption) (by assumption)); (case k8 => ktr_room); (case k9 => exact BindsTo.of_eq rfl); (case c5 => decide); (case kB => exact locs rfl); (case c2 => exact rfl); (case c3 => exact rfl); (case c4 => exact rfl); k_whole; intro L' h' tk' FG' F' N' B' X' T' st' lt'; (try k_lt lt'); (try dsimp only); (try k_lift B'); (try k_fold)))
local macro_rules | `(tactic| walk_at "subscriptTail Name Name ref int") => `(tactic| (k_here; (with_unfolding_all refine' item_ints ?k1 ?k2 ?k3 ?k4 ?k5 ?_ ?k6; (case k1 => first | exact is_list_of (by with_reducible assumption) (by with_reducible assumption) | exact isList_of (by with_reducible assumption) (by k_mem)); (case k2 => with_reducible assumption); (case k3 => omega); (case k4 => omega); (case k5 => omega); (case k6 => with_unfolding_all rfl); k_whole); intro tI))
local macro_rules | `(tactic| walk_at "call builtin:len") => `(tactic| (k_here; (with_reducible show wpAny _ _ (PySem.call (Value.builtin _) [Value.ref _]) _ _ _); k_dflt (refine' len_known ?k1 ?k2 ?k3 ?k4 ?_; (case k1 => k_asm); (case k2 => k_mem); (case k3 => first | with_reducible assumption | exact IntsAre.length (by with_reducible assumption)); (case k4 => omega); k_whole)))
local macro_rules | `(tactic| walk_at "exec For Name Call cons nil") => `(tactic| (k_here; (rename Fr _ _ _ _ => lF'); (with_unfolding_all refine' For_invVF (hE := ?kE) lF' ?k1 ?k2 ?_; (case kE => first | with_reducible assumption | passes_own); (case k1 => exact rfl); (case k2 => exact rfl); k_whole)))
local macro_rules | `(tactic| walk_at "exec For Name List cons nil") => `(tactic| (k_here; (rename Fr _ _ _ _ => lF'); (with_unfolding_all refine' For_invVF (hE := ?kE) lF' ?k1 ?k2 ?_; (case kE => first | with_reducible assumption | passes_own); (case k1 => exact rfl); (case k2 => exact rfl); k_whole)))
section
variable {w : World} {p : Program} {loose : List Str} {mean : ExcName → Option Value} {mg mb : Str → Option Value}
  {dp un : Nat} {gd : Option (List Code)} {fa : Addr} {cd : Value} {outer : List Env} {A₀ : Around} {base h₀ : Heap} {L : Addr} {m : Str → Option Value} {s : Shared} {Q : Flow → Shared → Prop} {E : Value → Shared → Prop}
  {sc : Scope} {n : Nat} {c1 c9 D : Addr} {oc1 oc9 o1 o2 o3 o4 : Obj} {vs1 vs9 : Array Value} {tq1 tq9 : Tok} {lv : List Value} {ver : Nat} {v1 v3 v4 : Option Value}
variable (B : Below A₀ base outer h₀) (X : (hd.heap_39 w.params).In h₀) (T : Top p loose mean mg mb h₀) (hdp : dp + 50 < recursionLimit) (hun : un + 400 < cLine)
  (C20 : CodeHd h₀ 20 16) (C27 : CodeHd h₀ 27 23) (l16 : @LT.lt Nat _ 23 L ∧ @LT.lt Nat _ 16 L)
  (hoc1 : oc1.data = .fields vs1) (hq1 : vs1[1]? = some (.str (Str.ofString "_int2digits.<locals>.inner") tq1)) (hoc9 : oc9.data = .fields vs9) (hq9 : vs9[1]? = some (.str (Str.ofString "_digits2int.<locals>.inner") tq9))
  (d1 : o1.data = .cell v1) (d2 : o2.data = .cell (some (.ref D))) (d3 : o3.data = .cell v3) (d4 : o4.data = .cell v4)
  (hn : n < 256) (hlv : IntsAre lv (lot n))
  (nD : @Ne Nat c9 D ∧ @Ne Nat 23 D ∧ @Ne Nat c1 D ∧ @Ne Nat 16 D ∧ @Ne Nat (L + 1 + 1 + 1 + 1) D ∧ @Ne Nat (L + 1 + 1 + 1) D ∧ @Ne Nat (L + 1 + 1) D ∧ @Ne Nat (L + 1) D)
  (n9 : @Ne Nat 23 c9 ∧ @Ne Nat c1 c9 ∧ @Ne Nat 16 c9 ∧ @Ne Nat (L + 1 + 1 + 1 + 1) c9 ∧ @Ne Nat (L + 1 + 1 + 1) c9 ∧ @Ne Nat (L + 1 + 1) c9 ∧ @Ne Nat (L + 1) c9)
  (n1 : @Ne Nat 23 c1 ∧ @Ne Nat 16 c1 ∧ @Ne Nat (L + 1 + 1 + 1 + 1) c1 ∧ @Ne Nat (L + 1 + 1 + 1) c1 ∧ @Ne Nat (L + 1 + 1) c1 ∧ @Ne Nat (L + 1) c1)
include B X T hdp hun C20 C27 l16 hoc1 hq1 hoc9 hq9 d1 d2 d3 d4 hn hlv nD n9 n1
set_option maxHeartbeats 40000000 in
theorem law_E {s12 : Stmt} {rest : List Stmt} (hS : lawScope = some sc) (hB : lawBody.drop 12 = s12 :: rest)
  {ti : Tok} (F : Fr h₀ L s.heap m)
  (N : News h₀ L s.heap [(D, W.listOf lv.toArray ver), (c9, oc9), (23, tabObj #[rawInt 20, rawInt 4, .ref c9]), (c1, oc1), (16, tabObj #[rawInt 5, rawInt 4, .ref c1]), (L + 1 + 1 + 1 + 1, o4), (L + 1 + 1 + 1, o3), (L + 1 + 1, o2), (L + 1, o1)])
  (hm3 : m (Str.ofString "within") = some (.int (edges (lot n) : Nat) ti))
  (hE : PassesOwn (model PySem.Challenge.rw_hn0001_01.row.prog w) (ktrTop dp un gd (Str.ofString "law") sc L fa cd (cellsFrom (L + 1) sc.names []) outer) (envOfC (Str.ofString "law") sc L fa cd) E)
  (hnext : ∀ (ti : Tok) (h : Heap) (tk : Nat) (m' : Str → Option Value) (p3 p4 : Obj) (w3 w4 : Option Value), p3.data = .cell w3 → p4.data = .cell w4 → Fr h₀ L h m' →
      News h₀ L h [(D, W.listOf lv.toArray ver), (c9, oc9), (23, tabObj #[rawInt 20, rawInt 4, .ref c9]), (c1, oc1), (16, tabObj #[rawInt 5, rawInt 4, .ref c1]), (L + 1 + 1 + 1 + 1, p4), (L + 1 + 1 + 1, p3), (L + 1 + 1, o2), (L + 1, o1)] →
      m' (Str.ofString "within") = some (.int (edges (lot n) : Nat) ti) →
      wpAny (model PySem.Challenge.rw_hn0001_01.row.prog w) (ktrTop dp un gd (Str.ofString "law") sc L fa cd (cellsFrom (L + 1) sc.names []) outer) (execs rest (envOfC (Str.ofString "law") sc L fa cd)) Q E { s with heap := h, toks := tk }) :
  wpAny (model PySem.Challenge.rw_hn0001_01.row.prog w) (ktrTop dp un gd (Str.ofString "law") sc L fa cd (cellsFrom (L + 1) sc.names []) outer) (execs (s12 :: rest) (envOfC (Str.ofString "law") sc L fa cd)) Q E s := by
  injection hS with eS
  injection hB with e7 hB
  subst eS e7
  revert X
  k_fill
  intro X
  rw [fix1 hm3] at F
  have hle := lot_len n
  refine wpAny_execs_cons ?_
  refine For_G h₀ ?_ (by with_reducible assumption)
  w_top off
  walk_at "mine stepsD"
  rename Fr _ _ _ _ => F3
  rename News _ _ _ _ => N3
  k_dflt (refine loopG_range (n := 3) (inE [(D, W.listOf lv.toArray ver), (c9, oc9), (23, tabObj #[rawInt 20, rawInt 4, .ref c9]), (c1, oc1), (16, tabObj #[rawInt 5, rawInt 4, .ref c1])] [(L + 1 + 1, o2), (L + 1, o1)] (L + 1 + 1 + 1 + 1) (L + 1 + 1 + 1) _) (by rfl) (by assumption) (by rfl) (by rfl) F3 N3 ⟨o3, o4, v3, v4, rfl, d3, d4, rfl⟩ ?_ ?_)
  · clear F3 N3
    rintro i t h tk m₁ nx I oI hi ⟨p3, p4, w3, w4, rfl, hp3, hp4, hm1⟩ hI F1 N1
    rw [fix1 hm1] at F1
    k_fold
    rw [Int.zero_add]
    have hI0 := hI
    simp only [List.cons_append, List.nil_append, AllNe, and_true] at hI N1
    refine wpAny_assign_Name ?_
    walk_at "mine stepsD"
    rename Fr _ _ _ _ => F2
    rename News _ _ _ _ => N2
    rename _ = Data.cell (some (Value.int _ _)) => dk
    refine comp_assign F2 (lowP i) (fun c => c) (by rfl) (by rfl) (by with_unfolding_all rfl) (by with_unfolding_all rfl) (by decide) (by rfl) (by decide) (by rfl) (by rfl) (by rfl) ?_
    walk_at "mine stepsD"
    rename Fr _ _ _ _ => F3
    rename News _ _ _ _ => N3
    refine ⟨lot n, _, .list rfl (isList_of N3 (by k_mem)) hlv (by omega), F3, N3, ⟨?_, ?_⟩, ?_⟩
    · intro C oC a t m₂ s₃ E' ha nC hm F4 N4 up
      refine wpAny_tests_one ?_
      obtain ⟨ha1, ha2⟩ := lot_mem ha
      clear F3 N3
      walk_at "mine stepsD"
      exact ⟨rfl, ⟨_, _, rfl, fun _ _ e => e⟩⟩
    · intro C oC a t m₂ s₃ E' ha hp nC hm F4 N4 up
      clear F3 N3
      walk_at "mine stepsD"
      exact ⟨⟨_, rfl⟩, ⟨_, _, rfl, fun _ _ e => e⟩⟩
    · intro D2 h2 tk2 F4 ⟨ys, v, N4, hys⟩ hne
      rw [List.map_id'] at hys
      have hne := allNe_of hne
      simp only [AllNe, and_true] at hne
      clear F3 N3
      walk_at "mine stepsD"
      rename Fr _ _ _ _ => F5
      rename News _ _ _ _ => N5
      refine wpAny_Assign_Name ?_ (by with_unfolding_all rfl)
      refine comp_eval F5 (highP i) (fun c => c) (by rfl) (by with_unfolding_all rfl) (by decide) (by rfl) (by decide) (by rfl) ?_
      walk_at "mine stepsD"
      rename Fr _ _ _ _ => F6
      rename News _ _ _ _ => N6
      refine ⟨lot n, _, .list rfl (isList_of N6 (by k_mem)) hlv (by omega), F6, N6, ⟨?_, ?_⟩, ?_⟩
      · intro C oC a t m₂ s₃ E' ha nC hm F4 N4 up
        refine wpAny_tests_one ?_
        obtain ⟨ha1, ha2⟩ := lot_mem ha
        clear F6 N6
        walk_at "mine stepsD"
        exact ⟨rfl, ⟨_, _, rfl, fun _ _ e => e⟩⟩
      · intro C oC a t m₂ s₃ E' ha hp nC hm F4 N4 up
        clear F6 N6
        walk_at "mine stepsD"
        exact ⟨⟨_, rfl⟩, ⟨_, _, rfl, fun _ _ e => e⟩⟩
      · intro D3 h3 tk3 out
        obtain ⟨F7, ⟨ys3, v3', N7, hys3⟩, hne3, up3, hD3, hDL3⟩ := out
        rw [List.map_id'] at hys3
        have hne3 := allNe_of hne3
        simp only [AllNe, and_true] at hne3
        clear F6 N6
        k_dflt (refine' storeX_C F7 N7 ?c (.tail (Ne.symm hne3.2.2.2.2.2.2.2.1) (.tail (Ne.symm hne.2.2.2.2.2.2.1) (.tail (Ne.symm hI.2.2.2.2.2.1) (.tail (Ne.symm nD.2.2.2.2.1) (.tail (Ne.symm n9.2.2.2.1) (.tail (neN (by omega)) (.tail (Ne.symm n1.2.2.1) (.tail (neN (by omega)) (.head ?r))))))))) hp4 ?_ ?a ?b; (case a => rfl); (case b => rfl); (case c => rfl); (case r => exact ne_of_allNe ⟨neN (by omega), neN (by omega), neN (by omega), trivial⟩))
        intro h8 p4' F8 N8 dp4
        try dsimp only at N8
        walk_at "mine stepsD"
        rename Fr _ _ _ _ => F5
        rename News _ _ _ _ => N5
        have hll : ((lot n).filter (lowP i)).length ≤ 8 := Nat.le_trans (List.length_filter_le _ _) hle
        have hhl : ((lot n).filter (highP i)).length ≤ 8 := Nat.le_trans (List.length_filter_le _ _) hle
        refine edges_spec w B F5 X T (by rfl) (by omega) (by omega) (isList_of N5 (by k_mem)) hys hll (fun x hx => lot_mem (List.mem_filter.mp hx).1) ?_
        intro h9 tk9 r9 ws9 v9 s9 e9 hw9 f9
        have hb9 := edges_le8 hll
        obtain ⟨F9, N9, n9', l9⟩ := grow F5 N5 s9 e9 f9
        clear F5 N5
        walk_at "mine stepsD"
        rename Fr _ _ _ _ => F5
        rename News _ _ _ _ => N5
        refine edges_spec w B F5 X T (by rfl) (by omega) (by omega) (isList_of N5 (by k_mem)) hys3 hhl (fun x hx => lot_mem (List.mem_filter.mp hx).1) ?_
        intro h10 tk10 r10 ws10 v10 s10 e10 hw10 f10
        have hb10 := edges_le8 hhl
        obtain ⟨F10, N10, n10', l10⟩ := grow F5 N5 s10 e10 f10
        clear F5 N5
        walk_at "mine stepsD"
        rename Fr _ _ _ _ => F5
        rename News _ _ _ _ => N5
        refine comp_eval F5 (fun c => ((lot n).filter (highP i)).any (· == c + 2 ^ i)) (fun c => c) (by rfl) (by with_unfolding_all rfl) (by decide) (by rfl) (by decide) (by rfl) ?_
        walk_at "mine stepsD"
        rename Fr _ _ _ _ => F6
        rename News _ _ _ _ => N6
        refine ⟨(lot n).filter (lowP i), _, .list rfl (isList_of N6 (by k_mem)) hys (by omega), F6, N6, ⟨?_, ?_⟩, ?_⟩
        · intro C oC a t m₂ s₃ E' ha nC hm F4 N4 up
          refine wpAny_tests_one ?_
          obtain ⟨ha1, ha2⟩ := lot_mem (List.mem_filter.mp ha).1
          clear F6 N6
          walk_at "mine stepsD"
          exact ⟨rfl, ⟨_, _, rfl, fun _ _ e => e⟩⟩
        · intro C oC a t m₂ s₃ E' ha hp nC hm F4 N4 up
          clear F6 N6
          walk_at "mine stepsD"
          exact ⟨⟨_, rfl⟩, ⟨_, _, rfl, fun _ _ e => e⟩⟩
        · intro D5 h11 tk11 out
          obtain ⟨F7, ⟨ys5, v5, N7, hys5⟩, hne5, up5, hD5, hDL5⟩ := out
          have hlen5 : ys5.length = acr n i := by rw [hys5.length, List.map_id']; rfl
          have hb5 : acr n i ≤ 8 := Nat.le_trans (List.length_filter_le _ _) hll
          clear hys5
          clear F6 N6
          have hacr := acr_facts hn hi
          walk_at "mine stepsD"
          · rename _ ≠ _ => hbad
            exact absurd hacr.1 hbad
          · rename Fr _ _ _ _ => F8
            rename News _ _ _ _ => N8
            refine TurnG.next F8 N8 [(D, W.listOf lv.toArray ver), (c9, oc9), (23, tabObj #[rawInt 20, rawInt 4, .ref c9]), (c1, oc1), (16, tabObj #[rawInt 5, rawInt 4, .ref c1]), (L + 1 + 1 + 1 + 1, p4'), (L + 1 + 1 + 1, _), (L + 1 + 1, o2), (L + 1, o1)] (fun p hp => ?_) (by exact hI0) ⟨_, p4', _, _, rfl, dk, dp4, rfl⟩
            simp only [List.mem_cons, List.not_mem_nil, or_false] at hp
            rcases hp with rfl | rfl | rfl | rfl | rfl | rfl | rfl | rfl | rfl | rfl <;> k_mem
  · clear F3 N3
    rintro m₁ nx h tk ⟨p3, p4, w3, w4, rfl, hp3, hp4, hm1⟩ F1 N1
    exact hnext _ _ _ _ _ _ _ _ hp3 hp4 F1 N1 hm1
end
end Mine
end
section
open PySem PySem.W PyProof.Rows PySem.Calls
set_option maxRecDepth 100000
namespace Mine
local macro_rules | `(tactic| walk_at "mine enter") => `(tactic| (refine' call_raw ?k1 ?k2 ?k3 ?k4 ?k5 ?kA ?kF ?kK ?k6 ?k7 ?k8 ?k9 ?kB ?_ ?c2 ?c3 ?c4 ?c5; (case kA => exact rfl); (case kF => exact rfl); (case kK => assumption); (case k1 => k_asm); (case k2 => k_asm); (case k3 => k_asm); (case k4 => k_asm); (case k5 => k_asm); (case k6 => k_is); (case k7 => k_is); (case k8 => ktr_room); (case k9 => exact BindsTo.of_eq rfl); (case c5 => decide); (case kB => exact locs rfl); (case c2 => exact rfl); (case c3 => exact rfl); (case c4 => exact rfl); k_whole; intro L' h' tk' FG' F' N' B' X' T' st' lt'; (try k_lt lt'); (try dsimp only); (try k_lift B'); (try k_fold)))
local macro_rules | `(tactic| walk_at "mine steps") => `(tactic| repeat' (first | (k_unfold; (try dsimp only)) | ((fail_if_success (with_reducible show wpAny _ _ (pyIter (Value.ref _)) _ _ _)); (fail_if_success (with_reducible show InvEndN _ _ _ _ _ _ _)); (fail_if_success (with_reducible show UnrEnd _ _ _ _ _ _ _)); (fail_if_success (with_reducible show _ ∧ Keeps _ _)); (fail_if_success (with_reducible show ∃ _, _)); (fail_if_success (with_reducible show wpAny _ _ (exec (Stmt.Assign _ (PySem.Expr.ListComp _ _ _ _) _) _) _ _ _)); (fail_if_success (with_reducible show wpAny _ _ (execs (Stmt.Assign [PySem.Expr.Tuple _ _ _] (PySem.Expr.Tuple _ _ _) _ :: _) _) _ _ _)); (fail_if_success (with_reducible show wpAny _ _ (subscriptTail _ (PySem.Expr.Slice _ _ _ _) _ _) _ _ _)); (fail_if_success (with_reducible show wpAny _ _ (binaryOp Operator.Add (Value.ref _) (Value.ref _)) _ _ _)); (fail_if_success (with_reducible show wpAny _ _ (PySem.call (Value.ref _) _ _) _ _ _)); (fail_if_success (with_reducible show wpAny _ _ (eval (Expr.ListComp _ _ _ _) _) _ _ _)); first | walk1 | (dsimp only; walk1)) | fail "no step"))
local macro_rules | `(tactic| walk_at "execs cons") => `(tactic| ((with_reducible refine wpAny_execs_cons ?_); try dsimp only))
local macro_rules | `(tactic| walk_at "execs nil") => `(tactic| (with_reducible refine wpAny_execs_nil ?_))
local macro_rules | `(tactic| k_all) => `(tactic| assumption)
local macro_rules | `(tactic| walk_at "mine enterC") => `(tactic| (refine' call_rawC ?k1 ?k2 ?k3 ?k4 ?k5 ?kA ?kF ?kK ?k6 ?k7 ?k8 ?k9 ?kB ?kD ?_ ?c2 ?c3 ?c4; (case kA => exact rfl); (case kF => exact rfl); (case kK => assumption); (case k1 => k_asm); (case k2 => k_asm); (case k3 => k_asm); (case k4 => k_asm); (case k5 => k_asm); (case k6 => k_is); (case k7 => k_is); (case k8 => ktr_room); (case k9 => exact BindsTo.of_eq rfl); (case kB => exact rfl); (case kD => decide +kernel); (case c2 => exact rfl); (case c3 => exact rfl); (case c4 => exact rfl); k_whole; intro L' h' tk' cells' FG' F' N' Y' B' X' T' st' lt'; (try k_lt lt'); k_cells Y'; (try simp only [List.cons_append, List.nil_append] at N'); (try dsimp only); (try k_lift B'); (try k_fold)))
local macro_rules | `(tactic| walk_at "mine stepsD") => `(tactic| repeat' (first | (k_unfold; (try dsimp only)) | ((fail_if_success (with_reducible show wpAny _ _ (pyIter (Value.ref _)) _ _ _)); (fail_if_success (with_reducible show InvEndN _ _ _ _ _ _ _)); (fail_if_success (with_reducible show UnrEnd _ _ _ _ _ _ _)); (fail_if_success (with_reducible show _ ∧ Keeps _ _)); (fail_if_success (with_reducible show ∃ _, _)); (fail_if_success (with_reducible show wpAny _ _ (exec (Stmt.Assign _ (PySem.Expr.ListComp _ _ _ _) _) _) _ _ _)); (fail_if_success (with_reducible show wpAny _ _ (execs (Stmt.Assign [PySem.Expr.Tuple _ _ _] (PySem.Expr.Tuple _ _ _) _ :: _) _) _ _ _)); (fail_if_success (with_reducible show wpAny _ _ (subscriptTail _ (PySem.Expr.Slice _ _ _ _) _ _) _ _ _)); (fail_if_success (with_reducible show wpAny _ _ (binaryOp Operator.Add (Value.ref _) (Value.ref _)) _ _ _)); (fail_if_success (with_reducible show wpAny _ _ (PySem.call (Value.ref _) _ _) _ _ _)); (fail_if_success (with_reducible show wpAny _ _ (eval (Expr.ListComp _ _ _ _) _) _ _ _)); (try dsimp only); walk1) | fail "no step"))
local macro_rules | `(tactic| walk_at "mine enterN") => `(tactic| (refine' call_rawN ?k1 ?k2 ?k3 ?k4 ?k5 ?kA ?kF ?kK ?k6 ?k7 ?k8 ?k9 ?kB ?_ ?c2 ?c3 ?c4 ?c5; (case kA => exact rfl); (case kF => exact rfl); (case kK => assumption); (case k1 => k_asm); (case k2 => k_asm); (case k3 => k_asm); (case k4 => k_asm); (case k5 => k_asm); (case k6 => k_mem); (case k7 => exact codeRec_news (by k_asm) (by k_mem) (by assumption) (by assumption)); (case k8 => ktr_room); (case k9 => exact BindsTo.of_eq rfl); (case c5 => decide); (case kB => exact locs rfl); (case c2 => exact rfl); (case c3 => exact rfl); (case c4 => exact rfl); k_whole; intro L' h' tk' FG' F' N' B' X' T' st' lt'; (try k_lt lt'); (try dsimp only); (try k_lift B'); (try k_fold)))
local macro_rules | `(tactic| walk_at "subscriptTail Name Name ref int") => `(tactic| (k_here; (with_unfolding_all refine' item_ints ?k1 ?k2 ?k3 ?k4 ?k5 ?_ ?k6; (case k1 => first | exact is_list_of (by with_reducible assumption) (by with_reducible assumption) | exact isList_of (by with_reducible assumption) (by k_mem)); (case k2 => with_reducible assumption); (case k3 => omega); (case k4 => omega); (case k5 => omega); (case k6 => with_unfolding_all rfl); k_whole); intro tI))
local macro_rules | `(tactic| walk_at "call builtin:len") => `(tactic| (k_here; (with_reducible show wpAny _ _ (PySem.call (Value.builtin _) [Value.ref _]) _ _ _); k_dflt (refine' len_known ?k1 ?k2 ?k3 ?k4 ?_; (case k1 => k_asm); (case k2 => k_mem); (case k3 => first | with_reducible assumption | exact IntsAre.length (by with_reducible assumption)); (case k4 => omega); k_whole)))
local macro_rules | `(tactic| walk_at "exec For Name Call cons nil") => `(tactic| (k_here; (rename Fr _ _ _ _ => lF'); (with_unfolding_all refine' For_invVF (hE := ?kE) lF' ?k1 ?k2 ?_; (case kE => first | with_reducible assumption | passes_own); (case k1 => exact rfl); (case k2 => exact rfl); k_whole)))
local macro_rules | `(tactic| walk_at "exec For Name List cons nil") => `(tactic| (k_here; (rename Fr _ _ _ _ => lF'); (with_unfolding_all refine' For_invVF (hE := ?kE) lF' ?k1 ?k2 ?_; (case kE => first | with_reducible assumption | passes_own); (case k1 => exact rfl); (case k2 => exact rfl); k_whole)))
section
variable {w : World} {p : Program} {loose : List Str} {mean : ExcName → Option Value} {mg mb : Str → Option Value}
  {dp un : Nat} {gd : Option (List Code)} {fa : Addr} {cd : Value} {outer : List Env} {A₀ : Around} {base h₀ : Heap} {L : Addr} {m : Str → Option Value} {s : Shared} {Q : Flow → Shared → Prop} {E : Value → Shared → Prop}
  {sc : Scope} {n : Nat} {c1 c9 D : Addr} {oc1 oc9 o1 o2 o3 o4 : Obj} {vs1 vs9 : Array Value} {tq1 tq9 : Tok} {lv : List Value} {ver : Nat} {v1 v3 v4 : Option Value}
variable (B : Below A₀ base outer h₀) (X : (hd.heap_39 w.params).In h₀) (T : Top p loose mean mg mb h₀) (hdp : dp + 50 < recursionLimit) (hun : un + 400 < cLine)
  (C20 : CodeHd h₀ 20 16) (C27 : CodeHd h₀ 27 23) (l16 : @LT.lt Nat _ 23 L ∧ @LT.lt Nat _ 16 L)
  (hoc1 : oc1.data = .fields vs1) (hq1 : vs1[1]? = some (.str (Str.ofString "_int2digits.<locals>.inner") tq1)) (hoc9 : oc9.data = .fields vs9) (hq9 : vs9[1]? = some (.str (Str.ofString "_digits2int.<locals>.inner") tq9))
  (d1 : o1.data = .cell v1) (d2 : o2.data = .cell (some (.ref D))) (d3 : o3.data = .cell v3) (d4 : o4.data = .cell v4)
  (hn : n < 256) (hlv : IntsAre lv (lot n))
  (nD : @Ne Nat c9 D ∧ @Ne Nat 23 D ∧ @Ne Nat c1 D ∧ @Ne Nat 16 D ∧ @Ne Nat (L + 1 + 1 + 1 + 1) D ∧ @Ne Nat (L + 1 + 1 + 1) D ∧ @Ne Nat (L + 1 + 1) D ∧ @Ne Nat (L + 1) D)
  (n9 : @Ne Nat 23 c9 ∧ @Ne Nat c1 c9 ∧ @Ne Nat 16 c9 ∧ @Ne Nat (L + 1 + 1 + 1 + 1) c9 ∧ @Ne Nat (L + 1 + 1 + 1) c9 ∧ @Ne Nat (L + 1 + 1) c9 ∧ @Ne Nat (L + 1) c9)
  (n1 : @Ne Nat 23 c1 ∧ @Ne Nat 16 c1 ∧ @Ne Nat (L + 1 + 1 + 1 + 1) c1 ∧ @Ne Nat (L + 1 + 1 + 1) c1 ∧ @Ne Nat (L + 1 + 1) c1 ∧ @Ne Nat (L + 1) c1)
include B X T hdp hun C20 C27 l16 hoc1 hq1 hoc9 hq9 d1 d2 d3 d4 hn hlv nD n9 n1
set_option maxHeartbeats 40000000 in
theorem law_F {s13 s14 s15 : Stmt} (hS : lawScope = some sc) (hB : lawBody.drop 13 = [s13, s14, s15])
  {ti : Tok} (F : Fr h₀ L s.heap m)
  (N : News h₀ L s.heap [(D, W.listOf lv.toArray ver), (c9, oc9), (23, tabObj #[rawInt 20, rawInt 4, .ref c9]), (c1, oc1), (16, tabObj #[rawInt 5, rawInt 4, .ref c1]), (L + 1 + 1 + 1 + 1, o4), (L + 1 + 1 + 1, o3), (L + 1 + 1, o2), (L + 1, o1)])
  (hm3 : m (Str.ofString "within") = some (.int (edges (lot n) : Nat) ti))
  (hE : PassesOwn (model PySem.Challenge.rw_hn0001_01.row.prog w) (ktrTop dp un gd (Str.ofString "law") sc L fa cd (cellsFrom (L + 1) sc.names []) outer) (envOfC (Str.ofString "law") sc L fa cd) E)
  (hnext : ∀ (h : Heap) (tk : Nat) (m' : Str → Option Value), Fr h₀ L h m' →
      News h₀ L h [(D, W.listOf lv.toArray ver), (c9, oc9), (23, tabObj #[rawInt 20, rawInt 4, .ref c9]), (c1, oc1), (16, tabObj #[rawInt 5, rawInt 4, .ref c1]), (L + 1 + 1 + 1 + 1, o4), (L + 1 + 1 + 1, o3), (L + 1 + 1, o2), (L + 1, o1)] →
      Q (.ret (.bool true)) { s with heap := h, toks := tk }) :
  wpAny (model PySem.Challenge.rw_hn0001_01.row.prog w) (ktrTop dp un gd (Str.ofString "law") sc L fa cd (cellsFrom (L + 1) sc.names []) outer) (execs [s13, s14, s15] (envOfC (Str.ofString "law") sc L fa cd)) Q E s := by
  injection hS with eS
  injection hB with e7 hB
  injection hB with e8 hB
  injection hB with e9 e10
  subst eS e7 e8 e9
  revert X
  k_fill
  intro X
  rw [fix1 hm3] at F
  have hle := lot_len n
  refine wpAny_execs_cons ?_
  refine comp_assign F (fun c => true) (turnC) (by rfl) (by rfl) (by with_unfolding_all rfl) (by with_unfolding_all rfl) (by decide) (by rfl) (by decide) (by rfl) (by rfl) (by rfl) ?_
  w_top off
  walk_at "mine stepsD"
  rename Fr _ _ _ _ => F3
  rename News _ _ _ _ => N3
  refine ⟨lot n, _, .list rfl (isList_of N3 (.head _)) hlv (by omega), F3, N3, ⟨?_, ?_⟩, ?_⟩
  · intro C oC a t m₂ s₃ E' ha nC hm F4 N4 up
    exact wpAny_tests_nil ⟨rfl, ⟨_, _, rfl, fun _ _ e => e⟩⟩
  · intro C oC a t m₂ s₃ E' ha hp nC hm F4 N4 up
    obtain ⟨ha1, ha2⟩ := lot_mem ha
    obtain ⟨x, rfl⟩ := Int.eq_ofNat_of_zero_le ha1
    have h3 := corner_len x
    clear F3 N3
    walk_at "mine stepsD"
    rename Fr _ _ _ _ => F5
    rename News _ _ _ _ => N5
    refine corner_spec w (c1 := c1) (oc1 := oc1) B F5 X T (by rfl) (by omega) (by omega) (news_sub N5 fun p hp => by simp only [List.mem_cons, List.not_mem_nil, or_false] at hp; rcases hp with rfl | rfl <;> k_mem) hoc1 hq1 C20 (x := x) (by omega) ?_
    intro h6 tk6 r6 ws6 v6 s6 e6 hw6 f6
    obtain ⟨F6, N6, n6, l6⟩ := grow F5 N5 s6 e6 f6
    clear F5 N5
    walk_at "mine stepsD"
    k_dflt (refine kba_turn (value' := PySem.Expr.Name (PySem.Str.ofString "_") ⟨0, 0, 0, 0⟩) (fun _ => rfl) ?_)
    k_dflt (refine' slice_keep (s := { heap := h6, gens := _, drawn := _, toks := _, os := _ }) ?ql ?qp ?qq ?qi ?qz ?qm ?_ ?qs ?qt; (case ql => exact isList_of N6 (.head _)); (case qp => exact IsPart.int _ _); (case qq => exact IsPart.none); (case qi => exact hw6); (case qz => omega); (case qm => exact kmk_from hw6 (by decide)); (case qs => with_unfolding_all rfl); (case qt => intro _; with_unfolding_all rfl))
    intro r7 ws7 h7 s7 e7 f7 hw7
    obtain ⟨F7, N7, n7, l7⟩ := grow F6 N6 s7 e7 f7
    clear F6 N6
    walk_at "mine stepsD"
    rename Fr _ _ _ _ => F5
    rename News _ _ _ _ => N5
    refine corner_spec w (c1 := c1) (oc1 := oc1) B F5 X T (by rfl) (by omega) (by omega) (news_sub N5 fun p hp => by simp only [List.mem_cons, List.not_mem_nil, or_false] at hp; rcases hp with rfl | rfl <;> k_mem) hoc1 hq1 C20 (x := x) (by omega) ?_
    intro h8 tk8 r8 ws8 v8 s8 e8 hw8 f8
    obtain ⟨F8, N8, n8, l8⟩ := grow F5 N5 s8 e8 f8
    clear F5 N5
    walk_at "mine stepsD"
    k_dflt (refine kba_turn (value' := PySem.Expr.Name (PySem.Str.ofString "_") ⟨0, 0, 0, 0⟩) (fun _ => rfl) ?_)
    k_dflt (refine' slice_keep (s := { heap := h8, gens := _, drawn := _, toks := _, os := _ }) ?ql ?qp ?qq ?qi ?qz ?qm ?_ ?qs ?qt; (case ql => exact isList_of N8 (.head _)); (case qp => exact IsPart.none); (case qq => exact IsPart.int _ _); (case qi => exact hw8); (case qz => omega); (case qm => exact kmk_upto hw8 (by decide)); (case qs => with_unfolding_all rfl); (case qt => intro _; with_unfolding_all rfl))
    intro r9 ws9 h9 s9 e9 f9 hw9
    obtain ⟨F9, N9, n9', l9⟩ := grow F8 N8 s9 e9 f9
    clear F8 N8
    walk_at "mine stepsD"
    rename Fr _ _ _ _ => F5
    rename News _ _ _ _ => N5
    refine add_keep (isList_of N5 (by k_mem)) (isList_of N5 (by k_mem)) hw7 hw9 (by simp only [List.length_drop, List.length_take]; omega) ?_
    intro r10 ws10 h10 s10 e10 f10 hw10
    obtain ⟨F10, N10, n10, l10⟩ := grow F5 N5 s10 e10 f10
    clear F5 N5
    walk_at "mine stepsD"
    rename Fr _ _ _ _ => F5
    rename News _ _ _ _ => N5
    have hz := turn_facts x (by omega)
    simp only [AllNe, and_true] at n10
    refine d2i_hit w (c1 := c9) (oc1 := oc9) B F5 X T (by rfl) (by omega) (by omega) (news_sub N5 fun p hp => by simp only [List.mem_cons, List.not_mem_nil, or_false] at hp; rcases hp with rfl | rfl <;> k_mem) hoc9 hq9 C27 (isList_of N5 (.head _)) hw10 hz.2 (by rw [hz.1]; decide) (by rw [hz.1]; decide) (Ne.symm n10.2.2.2.2.2.2.2.1) (Ne.symm n10.2.2.2.2.2.2.1) ?_
    intro h11 tk11 t11 s11
    exact ⟨⟨_, rfl⟩, ⟨_, _, rfl, fun b o e => s11 b o (s10 b o (s9 b o (s8 b o (s7 b o (s6 b o e)))))⟩⟩
  · intro D2 h' tk F4 ⟨ys, v, N4, hys⟩ hne
    rw [List.filter_eq_self.mpr (fun _ _ => rfl)] at hys
    clear F3 N3
    walk_at "mine stepsD"
    rename Fr _ _ _ _ => F5
    rename News _ _ _ _ => N5
    refine comp_assign F5 (fun c => true) (fun c => 7 - c) (by rfl) (by rfl) (by with_unfolding_all rfl) (by with_unfolding_all rfl) (by decide) (by rfl) (by decide) (by rfl) (by rfl) (by rfl) ?_
    walk_at "mine stepsD"
    rename Fr _ _ _ _ => F6
    rename News _ _ _ _ => N6
    refine ⟨lot n, _, .list rfl (isList_of N6 (.tail _ (.head _))) hlv (by omega), F6, N6, ⟨?_, ?_⟩, ?_⟩
    · intro C oC a t m₂ s₃ E' ha nC hm F7 N7 up
      exact wpAny_tests_nil ⟨rfl, ⟨_, _, rfl, fun _ _ e => e⟩⟩
    · intro C oC a t m₂ s₃ E' ha hp nC hm F7 N7 up
      clear F6 N6
      walk_at "mine stepsD"
      exact ⟨⟨_, rfl⟩, ⟨_, _, rfl, fun _ _ e => e⟩⟩
    · intro D3 h3 tk3 F7 ⟨ys3, v3, N7, hys3⟩ hne3
      rw [List.filter_eq_self.mpr (fun _ _ => rfl)] at hys3
      obtain ⟨hE1, hE2, hr1, hr2⟩ := moved_facts hn
      have hwl : edges (lot n) ≤ 24 := edges_le8 (lot_len n)
      clear F6 N6
      walk_at "mine stepsD"
      rename Fr _ _ _ _ => F5
      rename News _ _ _ _ => N5
      refine edges_spec w B F5 X T (by rfl) (by omega) (by omega) (isList_of N5 (by k_mem)) hys (by rw [List.length_map]; exact hle) hr1 ?_
      intro h8 tk8 r8 ws8 v8 s8 e8 hw8 f8
      rw [hE1] at hw8
      obtain ⟨F8, N8, n8, l8⟩ := grow F5 N5 s8 e8 f8
      clear F5 N5
      walk_at "mine stepsD"
      rename Fr _ _ _ _ => F5
      rename News _ _ _ _ => N5
      refine edges_spec w B F5 X T (by rfl) (by omega) (by omega) (isList_of N5 (by k_mem)) hys3 (by rw [List.length_map]; exact hle) hr2 ?_
      intro h9 tk9 r9 ws9 v9 s9 e9 hw9 f9
      rw [hE2] at hw9
      obtain ⟨F9, N9, n9', l9⟩ := grow F5 N5 s9 e9 f9
      clear F5 N5
      walk_at "mine stepsD"
      · rename Fr _ _ _ _ => F5
        rename News _ _ _ _ => N5
        rw [beq_self_eq_true]
        exact hnext _ _ _ F5 (news_drop4 N5)
      · rename _ ≠ _ => hbad
        exact absurd rfl hbad
end
end Mine
end
section
open PySem PySem.W PyProof.Rows PySem.Calls
set_option maxRecDepth 100000
namespace Mine
local macro_rules | `(tactic| walk_at "mine enter") => `(tactic| (refine' call_raw ?k1 ?k2 ?k3 ?k4 ?k5 ?kA ?kF ?kK ?k6 ?k7 ?k8 ?k9 ?kB ?_ ?c2 ?c3 ?c4 ?c5; (case kA => exact rfl); (case kF => exact rfl); (case kK => assumption); (case k1 => k_asm); (case k2 => k_asm); (case k3 => k_asm); (case k4 => k_asm); (case k5 => k_asm); (case k6 => k_is); (case k7 => k_is); (case k8 => ktr_room); (case k9 => exact BindsTo.of_eq rfl); (case c5 => decide); (case kB => exact locs rfl); (case c2 => exact rfl); (case c3 => exact rfl); (case c4 => exact rfl); k_whole; intro L' h' tk' FG' F' N' B' X' T' st' lt'; (try k_lt lt'); (try dsimp only); (try k_lift B'); (try k_fold)))
local macro_rules | `(tactic| walk_at "mine steps") => `(tactic| repeat' (first | (k_unfold; (try dsimp only)) | ((fail_if_success (with_reducible show wpAny _ _ (pyIter (Value.ref _)) _ _ _)); (fail_if_success (with_reducible show InvEndN _ _ _ _ _ _ _)); (fail_if_success (with_reducible show UnrEnd _ _ _ _ _ _ _)); (fail_if_success (with_reducible show _ ∧ Keeps _ _)); (fail_if_success (with_reducible show ∃ _, _)); (fail_if_success (with_reducible show wpAny _ _ (exec (Stmt.Assign _ (PySem.Expr.ListComp _ _ _ _) _) _) _ _ _)); (fail_if_success (with_reducible show wpAny _ _ (execs (Stmt.Assign [PySem.Expr.Tuple _ _ _] (PySem.Expr.Tuple _ _ _) _ :: _) _) _ _ _)); (fail_if_success (with_reducible show wpAny _ _ (subscriptTail _ (PySem.Expr.Slice _ _ _ _) _ _) _ _ _)); (fail_if_success (with_reducible show wpAny _ _ (binaryOp Operator.Add (Value.ref _) (Value.ref _)) _ _ _)); (fail_if_success (with_reducible show wpAny _ _ (PySem.call (Value.ref _) _ _) _ _ _)); (fail_if_success (with_reducible show wpAny _ _ (eval (Expr.ListComp _ _ _ _) _) _ _ _)); first | walk1 | (dsimp only; walk1)) | fail "no step"))
local macro_rules | `(tactic| walk_at "execs cons") => `(tactic| ((with_reducible refine wpAny_execs_cons ?_); try dsimp only))
local macro_rules | `(tactic| walk_at "execs nil") => `(tactic| (with_reducible refine wpAny_execs_nil ?_))
local macro_rules | `(tactic| k_all) => `(tactic| assumption)
local macro_rules | `(tactic| walk_at "mine enterC") => `(tactic| (refine' call_rawC ?k1 ?k2 ?k3 ?k4 ?k5 ?kA ?kF ?kK ?k6 ?k7 ?k8 ?k9 ?kB ?kD ?_ ?c2 ?c3 ?c4; (case kA => exact rfl); (case kF => exact rfl); (case kK => assumption); (case k1 => k_asm); (case k2 => k_asm); (case k3 => k_asm); (case k4 => k_asm); (case k5 => k_asm); (case k6 => k_is); (case k7 => k_is); (case k8 => ktr_room); (case k9 => exact BindsTo.of_eq rfl); (case kB => exact rfl); (case kD => decide +kernel); (case c2 => exact rfl); (case c3 => exact rfl); (case c4 => exact rfl); k_whole; intro L' h' tk' cells' FG' F' N' Y' B' X' T' st' lt'; (try k_lt lt'); k_cells Y'; (try simp only [List.cons_append, List.nil_append] at N'); (try dsimp only); (try k_lift B'); (try k_fold)))
local macro_rules | `(tactic| walk_at "mine stepsD") => `(tactic| repeat' (first | (k_unfold; (try dsimp only)) | ((fail_if_success (with_reducible show wpAny _ _ (pyIter (Value.ref _)) _ _ _)); (fail_if_success (with_reducible show InvEndN _ _ _ _ _ _ _)); (fail_if_success (with_reducible show UnrEnd _ _ _ _ _ _ _)); (fail_if_success (with_reducible show _ ∧ Keeps _ _)); (fail_if_success (with_reducible show ∃ _, _)); (fail_if_success (with_reducible show wpAny _ _ (exec (Stmt.Assign _ (PySem.Expr.ListComp _ _ _ _) _) _) _ _ _)); (fail_if_success (with_reducible show wpAny _ _ (execs (Stmt.Assign [PySem.Expr.Tuple _ _ _] (PySem.Expr.Tuple _ _ _) _ :: _) _) _ _ _)); (fail_if_success (with_reducible show wpAny _ _ (subscriptTail _ (PySem.Expr.Slice _ _ _ _) _ _) _ _ _)); (fail_if_success (with_reducible show wpAny _ _ (binaryOp Operator.Add (Value.ref _) (Value.ref _)) _ _ _)); (fail_if_success (with_reducible show wpAny _ _ (PySem.call (Value.ref _) _ _) _ _ _)); (fail_if_success (with_reducible show wpAny _ _ (eval (Expr.ListComp _ _ _ _) _) _ _ _)); (try dsimp only); walk1) | fail "no step"))
local macro_rules | `(tactic| walk_at "mine enterN") => `(tactic| (refine' call_rawN ?k1 ?k2 ?k3 ?k4 ?k5 ?kA ?kF ?kK ?k6 ?k7 ?k8 ?k9 ?kB ?_ ?c2 ?c3 ?c4 ?c5; (case kA => exact rfl); (case kF => exact rfl); (case kK => assumption); (case k1 => k_asm); (case k2 => k_asm); (case k3 => k_asm); (case k4 => k_asm); (case k5 => k_asm); (case k6 => k_mem); (case k7 => exact codeRec_news (by k_asm) (by k_mem) (by assumption) (by assumption)); (case k8 => ktr_room); (case k9 => exact BindsTo.of_eq rfl); (case c5 => decide); (case kB => exact locs rfl); (case c2 => exact rfl); (case c3 => exact rfl); (case c4 => exact rfl); k_whole; intro L' h' tk' FG' F' N' B' X' T' st' lt'; (try k_lt lt'); (try dsimp only); (try k_lift B'); (try k_fold)))
local macro_rules | `(tactic| walk_at "subscriptTail Name Name ref int") => `(tactic| (k_here; (with_unfolding_all refine' item_ints ?k1 ?k2 ?k3 ?k4 ?k5 ?_ ?k6; (case k1 => first | exact is_list_of (by with_reducible assumption) (by with_reducible assumption) | exact isList_of (by with_reducible assumption) (by k_mem)); (case k2 => with_reducible assumption); (case k3 => omega); (case k4 => omega); (case k5 => omega); (case k6 => with_unfolding_all rfl); k_whole); intro tI))
local macro_rules | `(tactic| walk_at "call builtin:len") => `(tactic| (k_here; (with_reducible show wpAny _ _ (PySem.call (Value.builtin _) [Value.ref _]) _ _ _); k_dflt (refine' len_known ?k1 ?k2 ?k3 ?k4 ?_; (case k1 => k_asm); (case k2 => k_mem); (case k3 => first | with_reducible assumption | exact IntsAre.length (by with_reducible assumption)); (case k4 => omega); k_whole)))
local macro_rules | `(tactic| walk_at "exec For Name Call cons nil") => `(tactic| (k_here; (rename Fr _ _ _ _ => lF'); (with_unfolding_all refine' For_invVF (hE := ?kE) lF' ?k1 ?k2 ?_; (case kE => first | with_reducible assumption | passes_own); (case k1 => exact rfl); (case k2 => exact rfl); k_whole)))
local macro_rules | `(tactic| walk_at "exec For Name List cons nil") => `(tactic| (k_here; (rename Fr _ _ _ _ => lF'); (with_unfolding_all refine' For_invVF (hE := ?kE) lF' ?k1 ?k2 ?_; (case kE => first | with_reducible assumption | passes_own); (case k1 => exact rfl); (case k2 => exact rfl); k_whole)))
theorem news_less {g h : Heap} {L : Addr} {a b c d e f i j k l : Addr × Obj} (N : News g L h [a, b, c, d, e, f, i, j, k, l]) : News g L h [a, b, c, e, f, i, j, k, l] := news_sub N fun p hp => by
  simp only [List.mem_cons, List.not_mem_nil, or_false] at hp ⊢
  rcases hp with q | q | q | q | q | q | q | q | q <;> simp [q]
local macro_rules | `(tactic| walk_at "mine stepsM") => `(tactic| repeat' (first | (k_unfold; (try dsimp only)) | ((fail_if_success (with_reducible show wpAny _ _ (pyIter (Value.ref _)) _ _ _)); (fail_if_success (with_reducible show InvEndN _ _ _ _ _ _ _)); (fail_if_success (with_reducible show UnrEnd _ _ _ _ _ _ _)); (fail_if_success (with_reducible show _ ∧ Keeps _ _)); (fail_if_success (with_reducible show ∃ _, _)); (fail_if_success (with_reducible show wpAny _ _ (exec (Stmt.Assign _ (PySem.Expr.ListComp _ _ _ _) _) _) _ _ _)); (fail_if_success (with_reducible show wpAny _ _ (execs (Stmt.Assign [PySem.Expr.Tuple _ _ _] (PySem.Expr.Tuple _ _ _) _ :: _) _) _ _ _)); (fail_if_success (with_reducible show wpAny _ _ (subscriptTail _ (PySem.Expr.Slice _ _ _ _) _ _) _ _ _)); (fail_if_success (with_reducible show wpAny _ _ (binaryOp Operator.Add (Value.ref _) (Value.ref _)) _ _ _)); (fail_if_success (with_reducible show wpAny _ _ (PySem.call (Value.ref _) _ _) _ _ _)); (fail_if_success (with_reducible show wpAny _ _ (eval (Expr.ListComp _ _ _ _) _) _ _ _)); (fail_if_success (with_reducible show wpAny _ _ (execs (Stmt.Assign _ (PySem.Expr.Tuple _ _ _) _ :: _) _) _ _ _)); (try dsimp only); walk1) | fail "no step"))
theorem number_nat (z : Int) : ∃ n : Nat, n < 256 ∧ (if z < 0 then -z else z).fmod 256 = (n : Int) := by
  refine ⟨((if z < 0 then -z else z).fmod 256).toNat, ?_, ?_⟩
  · have h1 := Int.fmod_lt_of_pos (if z < 0 then -z else z) (show (0 : Int) < 256 by decide)
    omega
  · have h0 := Int.fmod_nonneg_of_pos (if z < 0 then -z else z) (show (0 : Int) < 256 by decide)
    omega
set_option maxHeartbeats 40000000 in
theorem main1 : PySem.Challenge.rw_hn0001_01.Holds := hd (by
  w_strict (k_go0; (all_goals try k_fold))
  walk_at "mine stepsD"
  rename Fr _ _ _ _ => F1
  rename News _ _ _ _ => N1
  rename Below _ _ _ _ => B1
  rename Frag.In _ _ => X1
  rename Top _ _ _ _ _ _ => T1
  rename CodeHd _ 20 16 => C20
  rename CodeHd _ 27 23 => C27
  rename 23 < _ ∧ 16 < _ => l16
  rename List Int => ns
  obtain ⟨n, hn, en⟩ := number_nat (List.sum ns)
  rw [en] at F1
  rw [en]
  k_fold
  refine i2d_first _ B1 F1 X1 T1 (by rfl) (by decide) (by decide) (news_sub N1 fun p hp => List.mem_append_right [_, _, _, _, _] hp) C20 hn ?_
  intro h1 tk1 r1 ws1 v1 c1 oc1 vs1 tq1 k1 e16 ec1 fc1 hoc1 hq1 er1 hI1 fr1 nrc
  obtain ⟨F2, N2, n2, n3, n4, n5⟩ := first_growR F1 (news_last6 N1) k1 e16 ec1 fc1 er1 fr1 nrc ⟨neN (by omega), neN (by omega), neN (by omega), neN (by omega), neN (by decide), trivial⟩
  simp only [AllNe, and_true] at n2 n3
  clear F1 N1
  walk_at "mine stepsD"
  rename Fr _ _ _ _ => F3
  rename News _ _ _ _ => N3
  have hle := digs_len hn
  refine kmk_add_ints F3 N3 (isList_of N3 (.tail _ (.tail _ (.head _)))) (isList_of N3 (.head _)) hI1 (.cons 0 _ (.cons 0 _ (.cons 0 _ (.cons 0 _ (.cons 0 _ (.cons 0 _ (.cons 0 _ (.cons 0 _ .nil)))))))) ?_ (line1000 (by simp only [List.length_cons, List.length_nil]; omega))
  intro D4 us h4 F4 N4 lt4 hI4
  k_lt lt4
  clear F3 N3
  walk_at "mine stepsD"
  rename Fr _ _ _ _ => F5
  rename News _ _ _ _ => N5
  have hl5 : (digs n ++ [0, 0, 0, 0, 0, 0, 0, 0]).length ≤ 1000 := by rw [List.length_append]; simp only [List.length_cons, List.length_nil]; omega
  k_dflt (refine kba_turn (value' := PySem.Expr.Name (PySem.Str.ofString "_") ⟨0, 0, 0, 0⟩) (fun _ => rfl) ?_)
  k_dflt (refine' kmk_slice_ints (s := { heap := h4, gens := _, drawn := _, toks := _, os := _ }) ?qF ?qN ?ql ?qp ?qq ?qi ?qm ?qc ?_ ?qs ?qt ?qz; (case qF => exact F5); (case qN => exact N5); (case ql => exact isList_of N5 (.head _)); (case qp => exact IsPart.none); (case qq => exact IsPart.int _ _); (case qi => exact hI4); (case qm => exact kmk_upto hI4 (by decide)); (case qc => exact rfl); (case qs => with_unfolding_all rfl); (case qt => intro _; with_unfolding_all rfl); (case qz => rw [List.size_toArray, hI4.length]; exact line1000 hl5))
  intro D6 ws6 h6 F6 N6 lt6 hI6 _ _
  k_lt lt6
  have N7 := news_fig N6
  clear F5 N5 N6
  walk_at "mine stepsD"
  rename Fr _ _ _ _ => F8
  rename News _ _ _ _ => N8
  have hI8 : IntsAre ws6 (figs n) := hI6
  obtain ⟨hf1, hf2, hf3⟩ := figs_facts hn
  refine d2i_first _ B1 F8 X1 T1 (by rfl) (by decide) (by decide) (news_sub N8 fun p hp => List.mem_append_right [_, _, _, _, _, _, _] hp) C27 (isList_of N8 (.head _)) hI8 hf2 (by omega) (by omega) (neN (by omega)) ?_
  intro h9 tk9 t9 c9 oc9 vs9 tq9 k9 e23 ec9 fc9 hoc9 hq9
  obtain ⟨F9, N9, n9, m9, _⟩ := first_grow F8 (news_last8 N8) k9 e23 ec9 fc9 ⟨neN (by omega), neN (by omega), neN (show (16 : Nat) ≠ 23 by decide), neN (by omega), neN (by omega), neN (by omega), neN (by omega), trivial⟩
  simp only [AllNe, and_true] at n9
  rw [hf1, hf3]
  clear F8 N8
  walk_at "mine stepsD"
  · exfalso; omega
  refine wpAny_Assign_Name ?_ (by with_unfolding_all rfl)
  refine comp_eval F9 (fun c => (figs n).getD c.toNat 0 == 1) (fun c => c) (by rfl) (by with_unfolding_all rfl) (by decide) (by rfl) (by decide) (by rfl) ?_
  walk_at "mine stepsD"
  rename Fr _ _ _ _ => F10
  rename News _ _ _ _ => N10
  refine ⟨rangeKs 0 8, _, .range rfl (by assumption) (by rfl) (by rfl) (by decide), F10, N10, ⟨?_, ?_⟩, ?_⟩
  · intro C oC a t m₂ s₃ E' ha nC hm F3 N3 up
    refine wpAny_tests_one ?_
    have ha' := mem_rangeKs ha
    obtain ⟨ha1, ha2⟩ := ha'
    clear F10 N10
    walk_at "mine stepsD"
    exact ⟨rfl, ⟨_, _, rfl, fun _ _ e => e⟩⟩
  · intro C oC a t m₂ s₃ E' ha hp nC hm F3 N3 up
    clear F10 N10
    walk_at "mine stepsD"
    exact ⟨⟨_, rfl⟩, ⟨_, _, rfl, fun _ _ e => e⟩⟩
  · intro D h' tk out
    obtain ⟨F11, ⟨ys, v, N11, hys⟩, hne, up, hD, hDL⟩ := out
    rw [List.map_id'] at hys
    have hne := allNe_of hne
    simp only [AllNe, and_true] at hne
    clear F10 N10
    have N12 := news_less N11
    k_dflt (refine' storeX_C F11 N12 ?q1 (.tail (Ne.symm hne.2.2.2.2.2.2.2.1) (.tail (Ne.symm n9.2.2.2.2.2.1) (.tail (neN (by omega)) (.tail (Ne.symm n3.2.2.2.1) (.tail (neN (by omega)) (.tail (neN (by omega)) (.tail (neN (by omega)) (.head ?q2)))))))) (by assumption) ?_ ?q3 ?q4; (case q3 => rfl); (case q4 => rfl); (case q1 => rfl); (case q2 => exact ne_of_allNe ⟨neN (by omega), trivial⟩))
    intro h13 o13 F13 N13 d13
    try dsimp only at N13
    have hnD := And.intro hne.1 (And.intro hne.2.1 (And.intro hne.2.2.2.1 (And.intro hne.2.2.2.2.1 (And.intro hne.2.2.2.2.2.1 (And.intro hne.2.2.2.2.2.2.1 (And.intro hne.2.2.2.2.2.2.2.1 hne.2.2.2.2.2.2.2.2))))))
    have hn9 := And.intro m9 (And.intro n9.2.1 (And.intro n9.2.2.1 (And.intro n9.2.2.2.1 (And.intro n9.2.2.2.2.1 (And.intro n9.2.2.2.2.2.1 n9.2.2.2.2.2.2)))))
    have hn1 := And.intro n3.2.2.2.2.2 (And.intro n3.1 (And.intro n3.2.1 (And.intro n3.2.2.1 (And.intro n3.2.2.2.1 n3.2.2.2.2.1))))
    refine law_B B1 X1 T1 (by decide) (by decide) C20 C27 l16 hoc1 hq1 hoc9 hq9 (by assumption) (by assumption) (by assumption) (by assumption) hn hys hnD hn9 hn1 (hS := rfl) (hB := rfl) F13 N13 (by passes_own) ?_
    clear F13 N13 F11 N11 N12
    intro lf tw d od ff fv tn t1 t2 t3 t4 ti hB1 tkB mB FB NB hfB hB2 hB3 hB4
    have ew : wts 9 = [0, 0, 1, 2, 4, 5, 7, 9, 12] := by decide +kernel
    rw [ew] at hfB
    refine law_C B1 X1 T1 (by decide) (by decide) C20 C27 l16 hoc1 hq1 hoc9 hq9 (by assumption) (by assumption) (by assumption) (by assumption) hn hys hnD hn9 hn1 (hS := rfl) (hB := rfl) FB NB hfB hB2 hB3 hB4 (by passes_own) ?_
    clear FB NB hfB hB2 hB3 hB4
    intro tC hC tkC mC FC NC hmC
    refine law_D B1 X1 T1 (by decide) (by decide) C20 C27 l16 hoc1 hq1 hoc9 hq9 (by assumption) (by assumption) (by assumption) (by assumption) hn hys hnD hn9 hn1 (hS := rfl) (hB := rfl) FC NC hmC (by passes_own) ?_
    clear FC NC hmC
    intro hD' tkD mD p3 w3 hp3 FD ND hmD
    refine law_E B1 X1 T1 (by decide) (by decide) C20 C27 l16 hoc1 hq1 hoc9 hq9 (by assumption) (by assumption) hp3 (by assumption) hn hys hnD hn9 hn1 (hS := rfl) (hB := rfl) FD ND hmD (by passes_own) ?_
    clear FD ND hmD hp3
    intro tE hE' tkE mE q3 q4 u3 u4 hq3 hq4 FE NE hmE
    refine law_F B1 X1 T1 (by decide) (by decide) C20 C27 l16 hoc1 hq1 hoc9 hq9 (by assumption) (by assumption) hq3 hq4 hn hys hnD hn9 hn1 (hS := rfl) (hB := rfl) FE NE hmE (by passes_own) ?_
    clear FE NE hmE
    intro hF' tkF mF FF NF
    refine ⟨goodW_bool FF (by assumption) (raisesW_false (by wrow_none_raised)) (by first | kc_post | wrow_post), GrownAt.of NF (by k_mem), GrownAt.of NF (by k_mem), trivial⟩)
end Mine
end
open PySem PySem.W PyProof.Rows
theorem PySem.Challenge.cw_hn0001_01_holds : PySem.Challenge.rw_hn0001_01.Holds :=
  Mine.main1
