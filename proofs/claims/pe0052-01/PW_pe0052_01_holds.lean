import PyProof.Rows.All
import Wide.All
import OpenK.AllK
import Wide.FinOn
import PyProof.Rows.SortKeyStr
import PySem.Challenge.RW_pe0052_01
set_option Elab.async false
section
open PySem PySem.W PySem.W.X PyProof.Rows
namespace Mine
section
local macro_rules | `(tactic| o_head $_) => `(tactic| assumption)
set_option maxRecDepth 100000 in
set_option maxHeartbeats 8000000 in
/-- made for the written heap alone -/
theorem hdT (h : PySem.Challenge.rw_pe0052_01.row.Holds) : PySem.Challenge.rw_pe0052_01.row.Holds := by k_head
end
/-- the written heap, without the code tables of the two defs that make code -/
noncomputable def kk (P : Params) : Frag := hdT.heap_1 P ++ [(4, { cls := .type "module", dict := some 0 })]
/-- all that the head is to show -/
noncomputable def kM (P : Params) : Frag := hdT.heap_1 P ++ [(4, { cls := .type "module", dict := some 0 }), (16, { cls := .none, data := .fields #[] }), (79, { cls := .none, data := .fields #[] })]
section
local macro_rules | `(tactic| k_head) => `(tactic| o_head (kHook Mine.kM [2, 3, 6, 15, 17, 18, 20, 21, 22, 23, 24, 26, 27, 29, 30, 31, 33, 34, 36, 37, 38, 41, 42, 43, 45, 46, 48, 49, 50, 52, 53, 55, 56, 57, 59, 60, 62, 63, 64, 66, 67, 69, 70, 71, 73, 74, 76, 77, 78, 81, 82, 4, 16, 79] (fun _ => by kernel_rfl!)))
set_option maxRecDepth 100000 in
set_option maxHeartbeats 8000000 in
open_top hm for PySem.Challenge.rw_pe0052_01
end
end Mine
end
section
open PySem PySem.W PyProof.Rows PySem.Calls
namespace Mine
noncomputable abbrev pg : Program := Challenge.rw_pe0052_01.row.prog
theorem fr_size {h₀ h : Heap} {L : Addr} {m : PySem.Str → Option Value} (F : Fr h₀ L h m) : h₀.objs.size ≤ h.objs.size := Nat.le_of_lt (Nat.lt_of_le_of_lt F.above F.ns.lt)
section
variable {prog : Program} {w : World} {A : Around} {E : Value → Shared → Prop} {s : Shared} {K : Frag} {Q : Value → Shared → Prop}
theorem enter_def {name qual : PySem.Str} {params : Arguments} {body : List Stmt} {scope : Scope} {dV kV doc pm cdv ct oc : Value} {an od : Option Addr} {osl : Array (Option Value)} {f : Addr} {pos : List Value} {binds : List (PySem.Str × Value)}
    (X : K.In s.heap) (hlim : s.heap.NoLimit)
    (ho : K.lookup f = some ⟨oc, od, .func (fnOf name qual params body scope dV kV doc pm an cdv ct), osl⟩) (hcd : codeIn K cdv qual = true) (hroom : A.depth < recursionLimit)
    (hbind : BindsTo s (fnOf name qual params body scope dV kV doc pm an cdv ct) ⟨pos, []⟩ binds) (hlocb : (binds.all fun y => scope.names.lookup y.1 == some .local) = true)
    (h : ∀ L' h₁, Fr s.heap L' h₁ (fun y => binds.reverse.lookup y) → News s.heap L' h₁ [] →
      wpAny (model prog w) (A.deeper (envOf qual scope L' f cdv)) (execs body (envOf qual scope L' f cdv))
        (fun fl s' => Q (match fl with | .ret v => v | _ => .none) s') (fun _ _ => False)
        { s with heap := h₁, toks := s.toks + binds.length })
    (hcell : ∀ x ∈ scope.names, x.2 ≠ .cell) (hco : scope.isCoroutine = false) (hgen : scope.isGenerator = false) (hk : scope.kind = .function) :
    wpAny (model prog w) A (call (.ref f) pos) Q E s := by
  have hloc : ∀ y ∈ binds, scope.names.lookup y.1 = some .local := fun y hy => beq_iff_eq.mp (List.all_eq_true.mp hlocb y hy)
  refine wpAny_call ?_
  refine codeAny_call_def (fd := fnOf name qual params body scope dV kV doc pm an cdv ct) (body := body) (binds := binds) hroom (X _ _ ho) rfl hlim (codeRec_of X hcd) rfl hbind hcell hloc (fun h₁ hns hk₁ => ?_) hco hgen hk
  exact wpAny_mono (h s.heap.objs.size h₁ ⟨hns, hk₁, Nat.le_refl _⟩ News.nil) (fun fl s' hq => hq) fun _ _ y => y.elim

theorem enter_defC {name qual : PySem.Str} {params : Arguments} {body : List Stmt} {scope : Scope} {dV kV doc pm cdv ct oc : Value} {an od : Option Addr} {osl : Array (Option Value)} {f : Addr} {pos : List Value} {binds : List (PySem.Str × Value)}
    (X : K.In s.heap) (hlim : s.heap.NoLimit)
    (ho : K.lookup f = some ⟨oc, od, .func (fnOf name qual params body scope dV kV doc pm an cdv ct), osl⟩) (hcd : codeIn K cdv qual = true) (hroom : A.depth < recursionLimit)
    (hbind : BindsTo s (fnOf name qual params body scope dV kV doc pm an cdv ct) ⟨pos, []⟩ binds)
    (hkind : (binds.all fun y => scope.names.lookup y.1 == some .local || scope.names.lookup y.1 == some .cell) = true)
    (hnd : ((cellsFrom 0 scope.names []).map (·.1)).Nodup)
    (h : ∀ L' h₁ tk cells, Fr s.heap L' h₁ (bindL (envOfC qual scope L' f cdv).kindOf binds fun _ => none) → News s.heap L' h₁ cells →
      CellsAre (bindC (envOfC qual scope L' f cdv).kindOf binds fun _ => none) (cellsFrom (L' + 1) scope.names []) cells →
      wpAny (model prog w) (A.deeper (envOfC qual scope L' f cdv)) (execs body (envOfC qual scope L' f cdv))
        (fun fl s' => Q (match fl with | .ret v => v | _ => .none) s') (fun _ _ => False)
        { s with heap := h₁, toks := tk })
    (hco : scope.isCoroutine = false) (hgen : scope.isGenerator = false) (hk : scope.kind = .function) :
    wpAny (model prog w) A (call (.ref f) pos) Q E s := by
  refine wpAny_call ?_
  refine codeAny_call_function hroom (X _ _ ho) rfl hco hgen rfl (codeRec_of X hcd) (hbind _ _ _ _ ?_)
  refine wpAny_newFunctionEnv_cells hk (kindsX hkind _) fun env' he s' x => ?_
  subst he
  refine ⟨hlim.keeps x.toInCall.keep, codeAny_func ?_⟩
  obtain ⟨h₁, tk, rfl, _⟩ := x.done
  have hk₁ := x.toInCall.keep
  obtain ⟨cells, NC, Y⟩ := Cl.news (h₀ := s.heap) (Nat.le_refl _) fun n c hm => ⟨x.cell n c (lookup_of_mem_nodup (cellsFrom_names scope.names 0 (s.heap.objs.size + 1) [] [] rfl ▸ hnd) hm), x.above n c hm⟩
  exact wpAny_mono (h s.heap.objs.size h₁ tk cells ⟨x.toInCall.ns, hk₁, Nat.le_refl _⟩ NC Y) (fun fl s' hq => hq) fun _ _ y => y.elim
end
end Mine
end
section
open PySem PySem.W PyProof.Rows PySem.Calls
namespace Mine
/-- what a straight run meets -/
structure PxR (α : Type) where
  ok : Bool
  asks : List (Addr × Addr)
  led : List (Addr × Obj)
  n : Nat
  tk : Nat
  left : Sem α
noncomputable def pxGet (L : List (Addr × Obj)) (i : Nat) : Addr × Obj := L.getD i (0, { cls := .none })
/-- a straight run of a tree: loads of the written part by its address, of the ledger by the hint's place (asks: the address asked, the address there); allocs lie at N + n -/
noncomputable def px {α : Type} (K : Frag) (S : Setting) (N : Nat) : Nat → List (Option Nat) → Bool → List (Addr × Addr) → List (Addr × Obj) → Nat → Nat → Sem α → PxR α
  | 0, _, b, as, L, n, tk, t => ⟨b, as, L, n, tk, t⟩
  | f + 1, hs, b, as, L, n, tk, t => match t with
    | .rule _ k => px K S N f hs b as L n tk (k ())
    | .at _ k => px K S N f hs b as L n tk (k ())
    | .point _ k => px K S N f hs b as L n tk (k ())
    | .ask k => px K S N f hs b as L n tk (k S)
    | .fresh k => px K S N f hs b as L n (tk + 1) (k tk)
    | .load a q k => match hs with
      | some i :: hs => px K S N f hs (b && Nat.blt i L.length) ((a, (pxGet L i).1) :: as) L n tk (k (pxGet L i).2)
      | none :: hs => match K.lookup a with
        | some o => px K S N f hs b as L n tk (k o)
        | none => ⟨b, as, L, n, tk, .load a q k⟩
      | [] => ⟨b, as, L, n, tk, .load a q k⟩
    | .update a q g k => match hs with
      | some i :: hs => px K S N f hs (b && Nat.blt i L.length && !(g (pxGet L i).2).isFreed) ((a, (pxGet L i).1) :: as) (L.set i ((pxGet L i).1, g (pxGet L i).2)) n tk (k ())
      | none :: _ => ⟨b, as, L, n, tk, .update a q g k⟩
      | [] => ⟨b, as, L, n, tk, .update a q g k⟩
    | .alloc o k => px K S N f hs (b && !o.isFreed) as (L ++ [(N + n, o)]) (n + 1) tk (k (N + n))
    | .pure v => ⟨b, as, L, n, tk, .pure v⟩
    | .raise e => ⟨b, as, L, n, tk, .raise e⟩
    | .unsupported e => ⟨b, as, L, n, tk, .unsupported e⟩
    | .finish e => ⟨b, as, L, n, tk, .finish e⟩
    | .loadIfAlive a k => ⟨b, as, L, n, tk, .loadIfAlive a k⟩
    | .register a k => ⟨b, as, L, n, tk, .register a k⟩
    | .choose c m k => ⟨b, as, L, n, tk, .choose c m k⟩
    | .os c l k => ⟨b, as, L, n, tk, .os c l k⟩
    | .call c h g l k => ⟨b, as, L, n, tk, .call c h g l k⟩
    | .handled o k => ⟨b, as, L, n, tk, .handled o k⟩
    | .newGen c k => ⟨b, as, L, n, tk, .newGen c k⟩
    | .genState g k => ⟨b, as, L, n, tk, .genState g k⟩
    | .resume g r l k => ⟨b, as, L, n, tk, .resume g r l k⟩
    | .yield v g l k => ⟨b, as, L, n, tk, .yield v g l k⟩
    | .stack k => ⟨b, as, L, n, tk, .stack k⟩
    | .fork c k => ⟨b, as, L, n, tk, .fork c k⟩
    | .thread k => ⟨b, as, L, n, tk, .thread k⟩
    | .await a t d l k => ⟨b, as, L, n, tk, .await a t d l k⟩
theorem px_ok_mono {α : Type} {K : Frag} {S : Setting} {N : Nat} : ∀ {f : Nat} {hs : List (Option Nat)} {b : Bool} {as : List (Addr × Addr)} {L : List (Addr × Obj)} {n tk : Nat} {t : Sem α}, (px K S N f hs b as L n tk t).ok = true → b = true := by
  intro f
  induction f with
  | zero => intro hs b as L n tk t h; exact h
  | succ f ih =>
    intro hs b as L n tk t h
    cases t with
    | rule _ k => exact ih (t := k ()) h
    | «at» _ k => exact ih (t := k ()) h
    | point _ k => exact ih (t := k ()) h
    | ask k => exact ih (t := k S) h
    | fresh k => exact ih (t := k tk) h
    | load a q k =>
      cases hs with
      | nil => exact h
      | cons i hs =>
        cases i with
        | none =>
          simp only [px] at h
          cases e : K.lookup a with
          | none => rw [e] at h; exact h
          | some o => rw [e] at h; exact ih h
        | some i => have y := ih (t := k (pxGet L i).2) h; rw [Bool.and_eq_true] at y; exact y.1
    | update a q u k =>
      cases hs with
      | nil => exact h
      | cons i hs =>
        cases i with
        | none => exact h
        | some i => have y := ih (t := k ()) h; rw [Bool.and_eq_true, Bool.and_eq_true] at y; exact y.1.1
    | alloc o k => have y := ih (t := k (N + n)) h; rw [Bool.and_eq_true] at y; exact y.1
    | _ => exact h
noncomputable def AsksOk : List (Addr × Addr) → Prop
  | [] => True
  | p :: r => p.1 = p.2 ∧ AsksOk r
/-- the ledger lies in the heap -/
structure LedOK (N n : Nat) (h : Heap) (L : List (Addr × Obj)) : Prop where
  size : h.objs.size = N + n
  at' : ∀ p ∈ L, h.get? p.1 = some p.2
  nd : (L.map (·.1)).Nodup
/-- all that the ledger does not name is kept -/
noncomputable def Frm (L : List (Addr × Obj)) (h h' : Heap) : Prop := ∀ b o, b ∉ L.map (·.1) → h.get? b = some o → h'.get? b = some o
theorem LedOK.lt {N n : Nat} {h : Heap} {L : List (Addr × Obj)} (H : LedOK N n h L) {a : Addr} (ha : a ∈ L.map (·.1)) : a < N + n := by
  obtain ⟨p, hp, rfl⟩ := List.mem_map.mp ha
  exact H.size ▸ Heap.lt_size (H.at' p hp)
theorem LedOK.alloc {N n : Nat} {h : Heap} {L : List (Addr × Obj)} (H : LedOK N n h L) {o : Obj} (hf : o.isFreed = false) : LedOK N (n + 1) (h.push o) (L ++ [(N + n, o)]) := by
  refine ⟨by rw [Heap.size_push, H.size]; omega, fun p hp => ?_, ?_⟩
  · rcases List.mem_append.mp hp with hp | hp
    · exact Heap.get?_push_of_some _ (H.at' p hp)
    · rw [List.mem_singleton.mp hp]; show (h.push o).get? (N + n) = some o
      rw [← H.size]; exact Heap.get?_push_size _ hf
  · rw [List.map_append, List.nodup_append]
    refine ⟨H.nd, by simp, fun a ha b hb e => ?_⟩
    have hl := H.lt ha
    have hb' : b = N + n := by simpa using hb
    rw [e, hb'] at hl
    exact Nat.lt_irrefl _ hl
theorem LedOK.update {N n : Nat} {h : Heap} {L : List (Addr × Obj)} (H : LedOK N n h L) {i : Nat} (hi : i < L.length) {g : Obj → Obj} (hf : (g (pxGet L i).2).isFreed = false) :
    LedOK N n (h.update (pxGet L i).1 g) (L.set i ((pxGet L i).1, g (pxGet L i).2)) := by
  have eg : pxGet L i = L[i] := by unfold pxGet; rw [List.getD_eq_getElem?_getD, List.getElem?_eq_getElem hi]; rfl
  have ho : h.get? (pxGet L i).1 = some (pxGet L i).2 := H.at' _ (by rw [eg]; exact List.getElem_mem hi)
  have hs := Heap.SameBut.update h (pxGet L i).1 g
  refine ⟨hs.1.trans H.size, fun p hp => ?_, ?_⟩
  · obtain ⟨j, hj, rfl⟩ := List.getElem_of_mem hp
    rw [List.length_set] at hj
    by_cases e : i = j
    · subst e; rw [List.getElem_set_self]; exact Heap.get?_update_self _ ho hf
    · rw [List.getElem_set_ne e]
      rw [hs.2 _ ?_]
      · exact H.at' _ (List.getElem_mem hj)
      · intro q
        have q1 : L[j].fst = L[i].fst := q.trans (congrArg (·.1) eg)
        have lj : j < (L.map (·.1)).length := by rw [List.length_map]; exact hj
        have li : i < (L.map (·.1)).length := by rw [List.length_map]; exact hi
        have q2 : (L.map (·.1))[j] = (L.map (·.1))[i] := by rw [List.getElem_map, List.getElem_map]; exact q1
        exact e ((List.getElem_inj H.nd).mp q2).symm
  · have : (L.set i ((pxGet L i).1, g (pxGet L i).2)).map (·.1) = L.map (·.1) := by
      rw [List.map_set]
      apply List.ext_getElem (by simp)
      intro j h1 h2
      by_cases e : i = j
      · subst e; simp [eg]
      · simp [List.getElem_set_ne e]
    rw [this]; exact H.nd
theorem Frm.refl (L : List (Addr × Obj)) (h : Heap) : Frm L h h := fun _ _ _ e => e
theorem Frm.push {L : List (Addr × Obj)} {h h' : Heap} (F : Frm L h h') (o : Obj) : Frm L h (h'.push o) := fun b o' hb e => Heap.get?_push_of_some _ (F b o' hb e)
section
variable {α : Type} {prog : Program} {w : World} {A : Around} {E : Value → Shared → Prop} {K : Frag} {Q : α → Shared → Prop} {L₀ : List (Addr × Obj)} {h₀ : Heap}
theorem px_sound (g : Array GenState) (d : Drawn) (os : OsState) {N : Nat} (X₀ : K.In h₀) (hK : ∀ a o, K.lookup a = some o → a ∉ L₀.map (·.1))
    (hN : ∀ b o, h₀.get? b = some o → b < N) : ∀ (f : Nat) (hs : List (Option Nat)) (b : Bool) (as : List (Addr × Addr)) (L : List (Addr × Obj)) (n tk : Nat) (t : Sem α) (h : Heap),
    (px K ⟨prog, w.params⟩ N f hs b as L n tk t).ok = true → AsksOk (px K ⟨prog, w.params⟩ N f hs b as L n tk t).asks →
    LedOK N n h L → Frm L₀ h₀ h → (∀ a ∈ L.map (·.1), a ∈ L₀.map (·.1) ∨ N ≤ a) →
    (∀ h', LedOK N (px K ⟨prog, w.params⟩ N f hs b as L n tk t).n h' (px K ⟨prog, w.params⟩ N f hs b as L n tk t).led → Frm L₀ h₀ h' →
      (∀ a ∈ (px K ⟨prog, w.params⟩ N f hs b as L n tk t).led.map (·.1), a ∈ L₀.map (·.1) ∨ N ≤ a) →
      wpAny (model prog w) A (px K ⟨prog, w.params⟩ N f hs b as L n tk t).left Q E ⟨h', g, d, (px K ⟨prog, w.params⟩ N f hs b as L n tk t).tk, os⟩) →
    wpAny (model prog w) A t Q E ⟨h, g, d, tk, os⟩ ∧ b = true ∧ AsksOk as := by
  intro f
  induction f with
  | zero => intro hs b as L n tk t h hok ha H F hl k; exact ⟨k h H F hl, hok, ha⟩
  | succ f ih =>
    intro hs b as L n tk t h hok ha H F hl k
    cases t with
    | rule tg k' => obtain ⟨x, y, z⟩ := ih hs b as L n tk (k' ()) h hok ha H F hl k; exact ⟨X.x_rule x, y, z⟩
    | «at» q k' => obtain ⟨x, y, z⟩ := ih hs b as L n tk (k' ()) h hok ha H F hl k; exact ⟨X.x_at x, y, z⟩
    | point q k' => obtain ⟨x, y, z⟩ := ih hs b as L n tk (k' ()) h hok ha H F hl k; exact ⟨X.x_point x, y, z⟩
    | ask k' => obtain ⟨x, y, z⟩ := ih hs b as L n tk (k' _) h hok ha H F hl k; exact ⟨X.x_ask x, y, z⟩
    | fresh k' => obtain ⟨x, y, z⟩ := ih hs b as L n (tk + 1) (k' tk) h hok ha H F hl k; exact ⟨X.x_fresh (s := ⟨h, g, d, tk, os⟩) x, y, z⟩
    | load a q k' =>
      cases hs with
      | nil => exact ⟨k h H F hl, hok, ha⟩
      | cons i hs =>
        cases i with
        | none =>
          have hok2 := hok
          simp only [px] at hok ha k
          cases e : K.lookup a with
          | none => rw [e] at hok ha k; exact ⟨k h H F hl, hok, ha⟩
          | some o =>
            rw [e] at hok ha k
            obtain ⟨x, y, z⟩ := ih hs b as L n tk (k' o) h hok ha H F hl k
            exact ⟨X.x_load (s := ⟨h, g, d, tk, os⟩) (F a o (hK a o e) (X₀ a o e)) x, y, z⟩
        | some i =>
          obtain ⟨x, y, z⟩ := ih hs _ _ L n tk (k' (pxGet L i).2) h hok ha H F hl k
          rw [Bool.and_eq_true] at y
          have hi : i < L.length := Nat.le_of_ble_eq_true y.2
          have eg : pxGet L i = L[i] := by unfold pxGet; rw [List.getD_eq_getElem?_getD, List.getElem?_eq_getElem hi]; rfl
          have ho : h.get? (pxGet L i).1 = some (pxGet L i).2 := H.at' _ (by rw [eg]; exact List.getElem_mem hi)
          have e1 : a = (pxGet L i).1 := z.1
          exact ⟨X.x_load (s := ⟨h, g, d, tk, os⟩) (e1 ▸ ho) x, y.1, z.2⟩
    | update a q u k' =>
      cases hs with
      | nil => exact ⟨k h H F hl, hok, ha⟩
      | cons i hs =>
        cases i with
        | none => exact ⟨k h H F hl, hok, ha⟩
        | some i =>
          by_cases hi : i < L.length
          · by_cases hf : (u (pxGet L i).2).isFreed = false
            · have eg : pxGet L i = L[i] := by unfold pxGet; rw [List.getD_eq_getElem?_getD, List.getElem?_eq_getElem hi]; rfl
              have hm : (pxGet L i).1 ∈ L.map (·.1) := by rw [eg]; exact List.mem_map_of_mem (List.getElem_mem hi)
              have em : (L.set i ((pxGet L i).1, u (pxGet L i).2)).map (·.1) = L.map (·.1) := by
                rw [List.map_set]
                apply List.ext_getElem (by simp)
                intro j h1 h2
                by_cases e : i = j
                · subst e; simp [eg]
                · simp [List.getElem_set_ne e]
              have F' : Frm L₀ h₀ (h.update (pxGet L i).1 u) := fun b' o' hb e => by
                have hs := Heap.SameBut.update h (pxGet L i).1 u
                refine (hs.2 b' ?_).trans (F b' o' hb e)
                rintro rfl
                rcases hl _ hm with q | q
                · exact hb q
                · exact absurd (hN _ _ e) (Nat.not_lt.mpr q)
              obtain ⟨x, y, z⟩ := ih hs _ _ _ n tk (k' ()) (h.update (pxGet L i).1 u) hok ha (H.update hi hf) F' (by rw [em]; exact hl) k
              rw [Bool.and_eq_true, Bool.and_eq_true] at y
              have ho : h.get? (pxGet L i).1 = some (pxGet L i).2 := H.at' _ (by rw [eg]; exact List.getElem_mem hi)
              have e1 : a = (pxGet L i).1 := z.1
              subst e1
              exact ⟨wpAny_bind (m := updatePart (pxGet L i).1 q u) (f := k') (wpAny_updatePart (s := ⟨h, g, d, tk, os⟩) ho x), y.1.1, z.2⟩
            · exfalso
              have y : (b && Nat.blt i L.length && !(u (pxGet L i).2).isFreed) = true := px_ok_mono hok
              rw [Bool.and_eq_true] at y
              exact hf (by simpa using y.2)
          · exfalso
            have y : (b && Nat.blt i L.length && !(u (pxGet L i).2).isFreed) = true := px_ok_mono hok
            rw [Bool.and_eq_true, Bool.and_eq_true] at y
            exact hi (Nat.le_of_ble_eq_true y.1.2)
    | alloc o k' =>
      by_cases hf : o.isFreed = false
      · obtain ⟨x, y, z⟩ := ih hs _ as _ (n + 1) tk (k' (N + n)) (h.push o) hok ha (H.alloc hf) (F.push o) (fun a' ha' => by
          rw [List.map_append] at ha'
          rcases List.mem_append.mp ha' with q | q
          · exact hl a' q
          · exact .inr (by simp at q; rw [q]; exact Nat.le_add_right _ _)) k
        rw [Bool.and_eq_true] at y
        refine ⟨wpAny_bind (m := alloc o) (f := k') (wpAny_alloc (s := ⟨h, g, d, tk, os⟩) ?_), y.1, z⟩
        show wpAny _ _ (k' h.objs.size) _ _ _
        rw [H.size]
        exact x
      · exfalso
        have y : (b && !o.isFreed) = true := px_ok_mono hok
        rw [Bool.and_eq_true] at y
        exact hf (by simpa using y.2)
    | _ => exact ⟨k h H F hl, hok, ha⟩
end
end Mine
end
section
open PySem PySem.W PyProof.Rows PySem.Calls
namespace Mine
section
variable {α : Type} {prog : Program} {w : World} {A : Around} {E : Value → Shared → Prop} {K : Frag} {Q : α → Shared → Prop} {L : List (Addr × Obj)} {s : Shared}
/-- the written part lies apart from the ledger -/
noncomputable def KApart (K : Frag) (L : List (Addr × Obj)) : Prop := ∀ a o, K.lookup a = some o → a ∉ L.map (·.1)
theorem px_wp (f : Nat) (hs : List (Option Nat)) {t : Sem α} (r : PxR α) (e : px K ⟨prog, w.params⟩ s.heap.objs.size f hs true [] L 0 s.toks t = r)
    (X : K.In s.heap) (hK : KApart K L) (H : LedOK s.heap.objs.size 0 s.heap L) (hok : r.ok = true) (ha : AsksOk r.asks)
    (k : ∀ h', LedOK s.heap.objs.size r.n h' r.led → Frm L s.heap h' → wpAny (model prog w) A r.left Q E ⟨h', s.gens, s.drawn, r.tk, s.os⟩) :
    wpAny (model prog w) A t Q E s := by
  subst e
  exact (px_sound s.gens s.drawn s.os X hK (fun b o e => Heap.lt_size e) f hs true [] L 0 s.toks t s.heap hok ha H (Frm.refl _ _) (fun a ha => .inl ha) (fun h' H' F' _ => k h' H' F')).1
theorem LedOK.rebase {N n : Nat} {h : Heap} {L : List (Addr × Obj)} (H : LedOK N n h L) : LedOK h.objs.size 0 h L := ⟨rfl, H.at', H.nd⟩
theorem LedOK.grow {N n : Nat} {h h' : Heap} {L : List (Addr × Obj)} (H : LedOK N n h L) (k : ∀ b o, h.get? b = some o → h'.get? b = some o) : LedOK h'.objs.size 0 h' L := ⟨rfl, fun p hp => k _ _ (H.at' p hp), H.nd⟩
/-- collect of a list: the heap grows -/
theorem collect_keeps {h : Heap} {g : Array GenState} {d : Drawn} {tk : Nat} {os : OsState} {l : Addr} {vs : List Value} {n : Nat} {Q : List Value → Shared → Prop} (hl : h.get? l = some { cls := .type "list", data := .seq vs.toArray n })
    (q : ∀ h', (∀ b o, h.get? b = some o → h'.get? b = some o) → h.objs.size ≤ h'.objs.size → Q vs ⟨h', g, d, tk, os⟩) (hsz : vs.length ≤ sizeLine := by size_fits) : wpAny (model prog w) A (collect (.ref l)) Q E ⟨h, g, d, tk, os⟩ := by
  refine collect_list (s := ⟨h, g, d, tk, os⟩) (vs := vs) ⟨_, hl, rfl, n, rfl⟩ (q _ (fun b o q => ?_) (by rw [Heap.size_update, Heap.size_push]; exact Nat.le_succ _)) hsz
  have hlt : b < h.objs.size := Heap.lt_size q
  show ((h.push (seqObj "list" #[] 0)).update h.objs.size (Obj.mapSeq (· ++ vs.toArray))).get? b = some o
  rw [Heap.get?_update_ne _ _ _ _ (Nat.ne_of_lt hlt), Heap.get?_push_ne _ _ _ (Nat.ne_of_lt hlt)]
  exact q
end
/-- a read: loads alone -/
noncomputable def pk {α : Type} (K : Frag) (S : Setting) (L : List (Addr × Obj)) : Nat → List (Option Nat) → List (Addr × Addr) → Sem α → Option (α × List (Addr × Addr))
  | 0, _, _, _ => none
  | f + 1, hs, as, t => match t with
    | .pure v => some (v, as)
    | .rule _ k => pk K S L f hs as (k ())
    | .at _ k => pk K S L f hs as (k ())
    | .point _ k => pk K S L f hs as (k ())
    | .ask k => pk K S L f hs as (k S)
    | .load a _ k => match hs with
      | some i :: hs => match L[i]? with
        | some p => pk K S L f hs ((a, p.1) :: as) (k p.2)
        | none => none
      | none :: hs => match K.lookup a with
        | some o => pk K S L f hs as (k o)
        | none => none
      | [] => none
    | _ => none
section
variable {α : Type} {prog : Program} {w : World} {A : Around} {E : Value → Shared → Prop} {K : Frag} {Q : α → Shared → Prop} {L : List (Addr × Obj)} {s : Shared}
theorem pk_sound {v : α} (X : K.In s.heap) (H : ∀ p ∈ L, s.heap.get? p.1 = some p.2) (q : Q v s) : ∀ (f : Nat) (hs : List (Option Nat)) (as as' : List (Addr × Addr)) (t : Sem α),
    pk K ⟨prog, w.params⟩ L f hs as t = some (v, as') → AsksOk as' → wpAny (model prog w) A t Q E s ∧ AsksOk as := by
  intro f
  induction f with
  | zero => intro hs as as' t e; cases e
  | succ f ih =>
    intro hs as as' t e ha
    cases t with
    | pure a => cases e; exact ⟨wpAny_pure q, ha⟩
    | rule tg k' => obtain ⟨x, z⟩ := ih hs as as' (k' ()) e ha; exact ⟨PySem.W.X.x_rule x, z⟩
    | «at» q' k' => obtain ⟨x, z⟩ := ih hs as as' (k' ()) e ha; exact ⟨PySem.W.X.x_at x, z⟩
    | point q' k' => obtain ⟨x, z⟩ := ih hs as as' (k' ()) e ha; exact ⟨PySem.W.X.x_point x, z⟩
    | ask k' => obtain ⟨x, z⟩ := ih hs as as' (k' _) e ha; exact ⟨PySem.W.X.x_ask x, z⟩
    | load a q' k' =>
      cases hs with
      | nil => cases e
      | cons i hs =>
        cases i with
        | none =>
          simp only [pk] at e
          cases h : K.lookup a with
          | none => rw [h] at e; cases e
          | some o =>
            rw [h] at e
            obtain ⟨x, z⟩ := ih hs as as' (k' o) e ha
            exact ⟨PySem.W.X.x_load (X a o h) x, z⟩
        | some i =>
          simp only [pk] at e
          cases h : L[i]? with
          | none => rw [h] at e; cases e
          | some p =>
            rw [h] at e
            obtain ⟨x, z⟩ := ih hs _ as' (k' p.2) e ha
            have e1 : a = p.1 := z.1
            exact ⟨PySem.W.X.x_load (e1 ▸ H p (List.mem_of_getElem? h)) x, z.2⟩
    | _ => cases e
theorem pk_wp (f : Nat) (hs : List (Option Nat)) {t : Sem α} (v : α) (as : List (Addr × Addr)) (e : pk K ⟨prog, w.params⟩ L f hs [] t = some (v, as))
    (X : K.In s.heap) (H : ∀ p ∈ L, s.heap.get? p.1 = some p.2) (ha : AsksOk as) (q : Q v s) : wpAny (model prog w) A t Q E s := (pk_sound X H q f hs [] as t e ha).1
end
/-- the old heap's objects are kept; the ledger is L₀ (old, as it was) and R (new) -/
structure Seg (h₀ h : Heap) (K : Frag) (L₀ R : List (Addr × Obj)) : Prop where
  led : LedOK h.objs.size 0 h (L₀ ++ R)
  stays : h₀.StaysIn h
  new : ∀ p ∈ R, h₀.objs.size ≤ p.1
  kin : K.In h₀
  klt : ∀ a o, K.lookup a = some o → a ∉ L₀.map (·.1)
  sz : h₀.objs.size ≤ h.objs.size
theorem Seg.K {h₀ h : Heap} {K : Frag} {L₀ R : List (Addr × Obj)} (S : Seg h₀ h K L₀ R) : K.In h := S.kin.keeps S.stays
theorem Seg.apart {h₀ h : Heap} {K : Frag} {L₀ R : List (Addr × Obj)} (S : Seg h₀ h K L₀ R) : KApart K (L₀ ++ R) := by
  intro a o e hm
  rw [List.map_append] at hm
  rcases List.mem_append.mp hm with q | q
  · exact S.klt a o e q
  · obtain ⟨p, hp, rfl⟩ := List.mem_map.mp q
    exact absurd (Heap.lt_size (S.kin _ _ e)) (Nat.not_lt.mpr (S.new p hp))
theorem Seg.old {h₀ h : Heap} {K : Frag} {L₀ R : List (Addr × Obj)} (S : Seg h₀ h K L₀ R) {p : Addr × Obj} (hp : p ∈ L₀) : h.get? p.1 = some p.2 := S.led.at' p (List.mem_append_left _ hp)
theorem Seg.nw {h₀ h : Heap} {K : Frag} {L₀ R : List (Addr × Obj)} (S : Seg h₀ h K L₀ R) {p : Addr × Obj} (hp : p ∈ R) : h.get? p.1 = some p.2 := S.led.at' p (List.mem_append_right _ hp)
theorem Seg.grow {h₀ h h' : Heap} {K : Frag} {L₀ R : List (Addr × Obj)} (S : Seg h₀ h K L₀ R) (k : ∀ b o, h.get? b = some o → h'.get? b = some o) (z : h.objs.size ≤ h'.objs.size) : Seg h₀ h' K L₀ R :=
  ⟨S.led.grow k, fun b o e => k b o (S.stays b o e), S.new, S.kin, S.klt, Nat.le_trans S.sz z⟩
section
variable {α : Type} {prog : Program} {w : World} {A : Around} {E : Value → Shared → Prop} {K : Frag} {Q : α → Shared → Prop} {L₀ R : List (Addr × Obj)} {h₀ : Heap} {s : Shared}
theorem seg_pk {h : Heap} {g : Array GenState} {d : Drawn} {tk : Nat} {os : OsState} (S : Seg h₀ h K L₀ R) (f : Nat) (hs : List (Option Nat)) {t : Sem α} (v : α) (as : List (Addr × Addr)) (e : pk K ⟨prog, w.params⟩ (L₀ ++ R) f hs [] t = some (v, as))
    (ha : AsksOk as) (q : Q v ⟨h, g, d, tk, os⟩) : wpAny (model prog w) A t Q E ⟨h, g, d, tk, os⟩ := pk_wp (s := ⟨h, g, d, tk, os⟩) f hs v as e S.K S.led.at' ha q
theorem seg_px {h : Heap} {g : Array GenState} {d : Drawn} {tk : Nat} {os : OsState} (S : Seg h₀ h K L₀ R) (f : Nat) (hs : List (Option Nat)) {t : Sem α} (v : α) (as : List (Addr × Addr)) (R' : List (Addr × Obj)) (n tk' : Nat)
    (e : px K ⟨prog, w.params⟩ h.objs.size f hs true [] (L₀ ++ R) 0 tk t = ⟨true, as, L₀ ++ R', n, tk', .pure v⟩) (ha : AsksOk as)
    (hR : ∀ p ∈ R', p.1 ∈ R.map (·.1) ∨ h.objs.size ≤ p.1)
    (q : ∀ h', Seg h₀ h' K L₀ R' → Q v ⟨h', g, d, tk', os⟩) : wpAny (model prog w) A t Q E ⟨h, g, d, tk, os⟩ := by
  refine px_wp (s := ⟨h, g, d, tk, os⟩) f hs _ e S.K S.apart S.led rfl ha fun h' H' F' => wpAny_pure (q h' ⟨⟨rfl, H'.at', H'.nd⟩, fun b o eb => ?_, fun p hp => ?_, S.kin, S.klt, ?_⟩)
  · by_cases hb : b ∈ (L₀ ++ R).map (·.1)
    · rw [List.map_append] at hb
      rcases List.mem_append.mp hb with q | q
      · obtain ⟨p, hp, rfl⟩ := List.mem_map.mp q
        have e1 := S.stays _ _ eb
        rw [S.old hp] at e1
        cases e1
        exact H'.at' p (List.mem_append_left _ hp)
      · obtain ⟨p, hp, rfl⟩ := List.mem_map.mp q
        exact absurd (Heap.lt_size eb) (Nat.not_lt.mpr (S.new p hp))
    · exact F' b o hb (S.stays _ _ eb)
  · rcases hR p hp with q | q
    · obtain ⟨p', hp', e'⟩ := List.mem_map.mp q
      rw [← e']; exact S.new p' hp'
    · exact Nat.le_trans S.sz q
  · rw [H'.size]; exact Nat.le_trans S.sz (Nat.le_add_right _ _)
/-- the same, with one object made -/
theorem seg_px1 {h : Heap} {g : Array GenState} {d : Drawn} {tk : Nat} {os : OsState} (S : Seg h₀ h K L₀ R) (f : Nat) (hs : List (Option Nat)) {t : Sem α} (v : Addr → α) (as : List (Addr × Addr)) (R' : Addr → List (Addr × Obj)) (tk' : Nat)
    (e : px K ⟨prog, w.params⟩ h.objs.size f hs true [] (L₀ ++ R) 0 tk t = ⟨true, as, L₀ ++ R' (h.objs.size + 0), 1, tk', .pure (v (h.objs.size + 0))⟩) (ha : AsksOk as)
    (hR : ∀ p ∈ R' (h.objs.size + 0), p.1 ∈ R.map (·.1) ∨ h.objs.size ≤ p.1)
    (q : ∀ a h', Seg h₀ h' K L₀ (R' a) → Q (v a) ⟨h', g, d, tk', os⟩) : wpAny (model prog w) A t Q E ⟨h, g, d, tk, os⟩ :=
  seg_px S f hs _ as _ 1 tk' e ha hR fun h' S' => q _ h' S'
theorem wp_if_neg {M : Model} {c : Prop} [Decidable c] {a b : Sem α} (h : ¬ c) (x : wpAny M A b Q E s) : wpAny M A (if c then a else b) Q E s := by rw [if_neg h]; exact x
theorem wp_if_pos {M : Model} {c : Prop} [Decidable c] {a b : Sem α} (h : c) (x : wpAny M A a Q E s) : wpAny M A (if c then a else b) Q E s := by rw [if_pos h]; exact x
end
end Mine
end
section
open PySem PySem.W PyProof.Rows PySem.Calls
namespace Mine
theorem asks_self : ∀ {as : List (Addr × Addr)}, as = as.map (fun p => (p.1, p.1)) → AsksOk as
  | [], _ => trivial
  | (a, b) :: r, h => by
    simp only [List.map_cons, List.cons.injEq, Prod.mk.injEq, true_and] at h
    exact ⟨h.1.symm, asks_self h.2⟩
/-- the old heap's objects are kept but the code table at 16 -/
structure SegT (h₀ h : Heap) (K : Frag) (R : List (Addr × Obj)) : Prop where
  led : LedOK h.objs.size 0 h R
  stays : ∀ b o, b ≠ 16 → h₀.get? b = some o → h.get? b = some o
  new : ∀ p ∈ R, h₀.objs.size ≤ p.1 ∨ p.1 = 16
  kin : K.In h₀
  ke : K.lookup 16 = none
  sz : h₀.objs.size ≤ h.objs.size
theorem SegT.K {h₀ h : Heap} {K : Frag} {R : List (Addr × Obj)} (S : SegT h₀ h K R) : K.In h := fun a o e => S.stays a o (fun q => by rw [q, S.ke] at e; cases e) (S.kin a o e)
theorem SegT.apart {h₀ h : Heap} {K : Frag} {R : List (Addr × Obj)} (S : SegT h₀ h K R) : KApart K R := by
  intro a o e hm
  obtain ⟨p, hp, rfl⟩ := List.mem_map.mp hm
  rcases S.new p hp with q | q
  · exact absurd (Heap.lt_size (S.kin _ _ e)) (Nat.not_lt.mpr q)
  · rw [q, S.ke] at e; cases e
section
variable {α : Type} {prog : Program} {w : World} {A : Around} {E : Value → Shared → Prop} {K : Frag} {Q : α → Shared → Prop} {R : List (Addr × Obj)} {h₀ : Heap}
  {h : Heap} {g : Array GenState} {d : Drawn} {tk : Nat} {os : OsState}
theorem segT_pk (S : SegT h₀ h K R) (f : Nat) (hs : List (Option Nat)) {t : Sem α} (v : α) (as : List (Addr × Addr)) (e : pk K ⟨prog, w.params⟩ R f hs [] t = some (v, as))
    (ha : as = as.map (fun p => (p.1, p.1))) (q : Q v ⟨h, g, d, tk, os⟩) : wpAny (model prog w) A t Q E ⟨h, g, d, tk, os⟩ := pk_wp (s := ⟨h, g, d, tk, os⟩) f hs v as e S.K S.led.at' (asks_self ha) q
theorem segT_run (S : SegT h₀ h K R) (f : Nat) (hs : List (Option Nat)) {t : Sem α} {b : Nat} (hb : h.objs.size = b)
    (hok : (px K ⟨prog, w.params⟩ b f hs true [] R 0 tk t).ok = true)
    (ha : (px K ⟨prog, w.params⟩ b f hs true [] R 0 tk t).asks = (px K ⟨prog, w.params⟩ b f hs true [] R 0 tk t).asks.map (fun p => (p.1, p.1)))
    (q : ∀ h', h'.objs.size = b + (px K ⟨prog, w.params⟩ b f hs true [] R 0 tk t).n → SegT h₀ h' K (px K ⟨prog, w.params⟩ b f hs true [] R 0 tk t).led →
      wpAny (model prog w) A (px K ⟨prog, w.params⟩ b f hs true [] R 0 tk t).left Q E ⟨h', g, d, (px K ⟨prog, w.params⟩ b f hs true [] R 0 tk t).tk, os⟩) : wpAny (model prog w) A t Q E ⟨h, g, d, tk, os⟩ := by
  subst hb
  have key := px_sound (A := A) (E := E) (Q := Q) (prog := prog) (w := w) g d os (h₀ := h) (L₀ := R) (K := K) S.K S.apart (fun b o e => Heap.lt_size e) f hs true [] R 0 tk t h hok (asks_self ha) S.led (Frm.refl _ _) (fun a ha => .inl ha)
  refine (key fun h' H' F' L' => q h' H'.size ⟨⟨rfl, H'.at', H'.nd⟩, fun b o nb eb => ?_, fun p hp => ?_, S.kin, S.ke, ?_⟩).1
  · by_cases hbm : b ∈ R.map (·.1)
    · obtain ⟨p, hp, rfl⟩ := List.mem_map.mp hbm
      rcases S.new p hp with q | q
      · exact absurd (Heap.lt_size eb) (Nat.not_lt.mpr q)
      · exact absurd q nb
    · exact F' b o hbm (S.stays b o nb eb)
  · rcases L' p.1 (List.mem_map_of_mem hp) with q | q
    · obtain ⟨p', hp', e'⟩ := List.mem_map.mp q
      rw [← e']; exact S.new p' hp'
    · exact .inl (Nat.le_trans S.sz q)
  · rw [H'.size]; exact Nat.le_trans S.sz (Nat.le_add_right _ _)
/-- the same, with the ledger and the value told -/
theorem segT_px (S : SegT h₀ h K R) (f : Nat) (hs : List (Option Nat)) {t : Sem α} {b : Nat} (hb : h.objs.size = b) (v : α) (as : List (Addr × Addr)) (R' : List (Addr × Obj)) (n tk' : Nat)
    (e : px K ⟨prog, w.params⟩ b f hs true [] R 0 tk t = ⟨true, as, R', n, tk', .pure v⟩) (ha : as = as.map (fun p => (p.1, p.1)))
    (q : ∀ h', h'.objs.size = b + n → SegT h₀ h' K R' → Q v ⟨h', g, d, tk', os⟩) : wpAny (model prog w) A t Q E ⟨h, g, d, tk, os⟩ := by
  refine segT_run S f hs hb (by rw [e]) (by rw [e]; exact ha) fun h' H' S' => ?_
  rw [e] at H' S' ⊢
  exact wpAny_pure (q h' H' S')
end
end Mine
end
section
open PySem PySem.W PyProof.Rows PySem.Calls
set_option maxRecDepth 100000
namespace Mine
theorem nt {b : Bool} (h : b = false) : ¬ b = true := by rw [h]; exact Bool.false_ne_true
noncomputable abbrev tupO (vs : List Value) : Obj := { cls := .type "tuple", data := .seq vs.toArray 0 }
noncomputable abbrev fnO (d : Data) : Obj := { cls := .type "function", data := d }
/-- the class body's namespace as the body leaves it -/
noncomputable def bodyEs (x : Nat → Int) (t : Nat → Tok) (sl fI fL fG fE fF fH st : Addr) : Array DictEntry := #[
  ⟨x 0, .str (Str.ofString "__module__") (t 0), .str (Str.ofString "cpy313.functools") (t 1)⟩,
  ⟨x 1, .str (Str.ofString "__qualname__") (t 2), .str (Str.ofString "cmp_to_key.<locals>.K") (t 3)⟩,
  ⟨x 2, .str (Str.ofString "__firstlineno__") (t 4), .int 4 (t 5)⟩,
  ⟨x 3, .str (Str.ofString "__slots__") (t 6), .ref sl⟩,
  ⟨x 4, .str (Str.ofString "__init__") (t 7), .ref fI⟩,
  ⟨x 5, .str (Str.ofString "__lt__") (t 8), .ref fL⟩,
  ⟨x 6, .str (Str.ofString "__gt__") (t 9), .ref fG⟩,
  ⟨x 7, .str (Str.ofString "__eq__") (t 10), .ref fE⟩,
  ⟨x 8, .str (Str.ofString "__le__") (t 11), .ref fF⟩,
  ⟨x 9, .str (Str.ofString "__ge__") (t 12), .ref fH⟩,
  ⟨x 10, .str (Str.ofString "__hash__") (t 13), .none⟩,
  ⟨x 11, .str (Str.ofString "__static_attributes__") (t 14), .ref st⟩]
noncomputable def bodyEs2 (x : Nat → Int) (t : Nat → Tok) (sl fI fL fG fE fF fH st : Addr) : Array DictEntry := #[
  ⟨x 0, .str (Str.ofString "__module__") (t 0), .str (Str.ofString "cpy313.functools") (t 1)⟩,
  ⟨x 2, .str (Str.ofString "__firstlineno__") (t 4), .int 4 (t 5)⟩,
  ⟨x 3, .str (Str.ofString "__slots__") (t 6), .ref sl⟩,
  ⟨x 4, .str (Str.ofString "__init__") (t 7), .ref fI⟩,
  ⟨x 5, .str (Str.ofString "__lt__") (t 8), .ref fL⟩,
  ⟨x 6, .str (Str.ofString "__gt__") (t 9), .ref fG⟩,
  ⟨x 7, .str (Str.ofString "__eq__") (t 10), .ref fE⟩,
  ⟨x 8, .str (Str.ofString "__le__") (t 11), .ref fF⟩,
  ⟨x 9, .str (Str.ofString "__ge__") (t 12), .ref fH⟩,
  ⟨x 10, .str (Str.ofString "__hash__") (t 13), .none⟩,
  ⟨x 11, .str (Str.ofString "__static_attributes__") (t 14), .ref st⟩]
noncomputable abbrev kL (x : Nat → Int) (tt : Nat → Tok) (bT nA sl fI fL fG fE fF fH st : Addr) (tl : Tok) (ep : Nat) (dI dL dG dE dF dH : Data) (sv : List Value) : List (Addr × Obj) :=
  [(bT, tupO [.type "object"]), (nA, { cls := .type "dict", data := .dict (bodyEs x tt sl fI fL fG fE fF fH st) ep }),
    (sl, { cls := .type "list", data := .seq #[.str (Str.ofString "obj") tl] 0 }), (fI, fnO dI), (fL, fnO dL), (fG, fnO dG), (fE, fnO dE), (fF, fnO dF), (fH, fnO dH), (st, tupO sv)]
noncomputable abbrev nsO (es : Array DictEntry) (n : Nat) : Obj := { cls := .type "dict", data := .dict es n }
noncomputable abbrev clsO (c : ClassData) (sl : Array (Option Value)) : Obj := { cls := .type "type", data := .cls c, slots := sl }
end Mine
end
section
open PySem PySem.W PyProof.Rows PySem.Calls
set_option maxRecDepth 100000
namespace Mine
section
variable {prog : Program} {w : World} {A : Around} {E : Value → Shared → Prop} {h : Heap} {g : Array GenState} {d : Drawn} {t : Nat} {os : OsState}
theorem mro_cls {M : Model} {C : Addr} {oC : Obj} {cd : ClassData} (hC : h.get? C = some oC) (hd : oC.data = .cls cd) : Looks M h (mroOf (.ref C)) cd.mro := by
  intro A Q E s k q
  unfold mroOf classData
  refine wpAny_bind (wpAny_bind (wpAny_load (k _ _ hC) ?_))
  rw [hd]
  exact wpAny_pure (wpAny_pure q)
theorem sub_self {M : Model} {C : Addr} {oC : Obj} {cd : ClassData} {r : List Value} (hC : h.get? C = some oC) (hd : oC.data = .cls cd) (hm : cd.mro = .ref C :: r) : Looks M h (isSubtype (.ref C) (.ref C)) true := by
  intro A Q E s k q
  unfold isSubtype
  refine wpAny_bind ((mro_cls (M := M) hC hd) A _ E s k ?_)
  rw [hm]
  dsimp only
  refine wp_if_neg (by simp) ?_
  have e : (Value.ref C :: r).contains (.ref C) = true := by simp
  rw [e]
  exact wpAny_pure q
theorem super_cls {C : Addr} {oC : Obj} {cd : ClassData} {r : List Value} {Q : Value → Shared → Prop} (hC : h.get? C = some oC) (hd : oC.data = .cls cd) (hm : cd.mro = .ref C :: r)
    (hq : ∀ h', h'.get? h.objs.size = some { cls := .type "super", dict := none, data := .fields #[.ref C, .ref C, .ref C], slots := #[] } → (∀ y o, h.get? y = some o → h'.get? y = some o) → Q (.ref h.objs.size) ⟨h', g, d, t, os⟩) :
    wpAny (model prog w) A (call (.type "super") [.ref C, .ref C]) Q E ⟨h, g, d, t, os⟩ := by
  refine ks_callType_codesW (Q₁ := fun obj s₁ => obj = .ref h.objs.size ∧ s₁ = ⟨h.push { cls := .type "super", data := .fields #[.none, .none, .none] }, g, d, t, os⟩) F.ks_called_super (ks_wpAny_checkTypeCall_super hC hd) F.ks_entry_super_init
    (ks_code_super_new _ _ ⟨rfl, rfl⟩) fun obj s₁ h₁ => ?_
  obtain ⟨rfl, rfl⟩ := h₁
  have up : ∀ y o, h.get? y = some o → (h.push { cls := .type "super", data := .fields #[.none, .none, .none] }).get? y = some o := fun y o e => Heap.get?_push_of_some _ e
  have hso : (h.push { cls := .type "super", data := .fields #[.none, .none, .none] }).get? h.objs.size = some { cls := .type "super", dict := none, data := .fields #[.none, .none, .none], slots := #[] } := Heap.get?_push_at rfl rfl
  have hC' := up _ _ hC
  have hsub' := sub_self (M := model prog w) hC' hd hm
  refine ⟨⟨_, hso, rfl⟩, F.ks_initArgs_super _ _ _, ?_⟩
  unfold Builtin.«super.__init__» noKeywords
  repeat (first | (with_reducible refine ks_wpAny_isType_cls hC' hd ?_) | (with_reducible refine Looks.at hsub' ?_) | (with_reducible refine ks_wpAny_super_set3 hso ?_) | wp_step)
  all_goals first
    | (intro h' e k; exact ⟨rfl, hq h' e fun y o ey => k y o (Nat.ne_of_lt (Heap.lt_size ey)) (up y o ey)⟩)
    | (refine ks_wpAny_super_set3 hso ?_; intro h' e k; exact ⟨rfl, hq h' e fun y o ey => k y o (Nat.ne_of_lt (Heap.lt_size ey)) (up y o ey)⟩)
theorem bcall {id : String} {Bi : Builtin} {args : List Value} {s : Shared} {Q : Value → Shared → Prop} (hp : plainId id = true) (he : entryFor table id = some Bi) (hc : checkBuiltinCall id ⟨args, []⟩ = pure ()) (hk : callAny (.builtin id) ⟨args, []⟩ = (do checkBuiltinCall id ⟨args, []⟩; again (.builtin id ⟨args, []⟩)))
    (h : ∀ A', wpAny (model prog w) A' (Bi ⟨args, []⟩) (fun fin s' => ∃ v, fin = .done (.ret v) ∧ Q v s') E s) : wpAny (model prog w) A (call (.builtin id) args) Q E s := by
  refine wpAny_call (codeAny_of_tree ?_)
  show wpAny _ _ (callAny (.builtin id) ⟨args, []⟩) _ _ _
  rw [hk]
  refine wpAny_bind (wpAny_of_eq hc (wpAny_pure ⟨plainId_quiet hp _, codeAny_builtin he ?_⟩))
  refine wpAny_mono (h _) (fun fin s' hf => ?_) fun _ _ z => z
  obtain ⟨v, rfl, q⟩ := hf
  exact q
theorem entry_cmd_get : entryFor table "classmethod_descriptor.__get__" = some Builtin.«classmethod_descriptor.__get__» := entryFor_of_tree (by kernel_rfl!)
theorem entry_init_sub : entryFor table "object.__init_subclass__" = some Builtin.«object.__init_subclass__» := entryFor_of_tree (by kernel_rfl!)
theorem Seg.add {h₀ h' : Heap} {K : Frag} {L₀ R : List (Addr × Obj)} {o : Obj} (S : Seg h₀ h K L₀ R) (ho : h'.get? h.objs.size = some o) (k : ∀ b o, h.get? b = some o → h'.get? b = some o) : Seg h₀ h' K L₀ (R ++ [(h.objs.size, o)]) := by
  refine ⟨⟨rfl, fun p hp => ?_, ?_⟩, fun b o e => k b o (S.stays b o e), fun p hp => ?_, S.kin, S.klt, ?_⟩
  · rw [← List.append_assoc] at hp
    rcases List.mem_append.mp hp with hp | hp
    · exact k _ _ (S.led.at' p hp)
    · rw [List.mem_singleton.mp hp]; exact ho
  · rw [← List.append_assoc, List.map_append, List.nodup_append]
    refine ⟨S.led.nd, by simp, fun a ha b hb e => ?_⟩
    have hl := S.led.lt ha
    have hb' : b = h.objs.size := by simpa using hb
    rw [e, hb'] at hl
    exact Nat.lt_irrefl _ hl
  · rcases List.mem_append.mp hp with hp | hp
    · exact S.new p hp
    · rw [List.mem_singleton.mp hp]; exact S.sz
  · exact Nat.le_trans S.sz (Nat.le_of_lt (Heap.lt_size ho))
noncomputable abbrev supO (C : Addr) : Obj := { cls := .type "super", dict := none, data := .fields #[.ref C, .ref C, .ref C], slots := #[] }
theorem super_seg {h₀ : Heap} {K : Frag} {L₀ R : List (Addr × Obj)} {C : Addr} {oC : Obj} {cd : ClassData} {r : List Value} {Q : Value → Shared → Prop} (S : Seg h₀ h K L₀ R) (hC : (C, oC) ∈ R) (hd : oC.data = .cls cd) (hm : cd.mro = .ref C :: r)
    (hq : ∀ so h', Seg h₀ h' K L₀ (R ++ [(so, supO C)]) → Q (.ref so) ⟨h', g, d, t, os⟩) :
    wpAny (model prog w) A (call (.type "super") [.ref C, .ref C]) Q E ⟨h, g, d, t, os⟩ :=
  super_cls (S.nw hC) hd hm fun h' e k => hq _ h' (S.add e k)
/-- the super object's own attribute road: down to the builtin -/
theorem super_road {so : Addr} {o : Obj} {name : PySem.Str} {Q : Value → Shared → Prop} (hso : h.get? so = some o) (hc : o.cls = .type "super")
    (hb : ∀ A', wpAny (model prog w) A' (Builtin.«super.__getattribute__» ⟨[.ref so, .str name t], []⟩) (fun fin s' => ∃ a, fin = .done (.ret (.ref a)) ∧ Q (.ref a) s') (fun _ _ => False) ⟨h, g, d, t + 1, os⟩) :
    wpAny (model prog w) A (getAttr (.ref so) name) Q E ⟨h, g, d, t, os⟩ := by
  have hlk := F.ks_slot_super_ga.lookup
  have hT : ∀ t', (⟨h, g, d, t', os⟩ : Shared).TypeIs (.ref so) "super" := fun _ => ⟨_, hso, hc⟩
  unfold getAttr getAttrBy
  refine wpAny_bind (wpAny_mkText (wpAny_holding (wpAny_bind (wpAny_typeOf (hT _) (wpAny_bind (wpAny_of_eq hlk ?_))))))
  show wpAny _ _ (getAttrByItsOwn (.ref so) (.str name t) (.type "super") (.builtin "super.__getattribute__") true false) _ _ _
  unfold getAttrByItsOwn hookBefore callGetattribute boundAndCalled
  refine wpAny_bind (wpAny_of_eq (show (if onTheHeap (.type "super") then typeLookup (.type "super") "__getattr__" else pure none) = pure none from rfl) ?_)
  refine wpAny_bind (wpAny_attempt (wpAny_holding ?_))
  show wpAny _ _ (bindSpecial (.builtin "super.__getattribute__") (.ref so) >>= _) _ _ _
  refine wpAny_bind (wpAny_of_eq (F.ks_slot_super_ga.bind _) ?_)
  refine wpAny_mono (Q := fun v s' => ∃ a, v = .ref a ∧ Q (.ref a) s') (E := fun _ _ => False) (wpAny_call_entry F.ks_slot_super_ga (hT _) F.ks_entry_super_ga ?_ (F.ks_gaArgs_super _ _)) (fun v s' hv => ?_) fun _ _ z => z.elim
  · refine wpAny_mono (hb _) (fun fin s' hf => ?_) fun _ _ z => z
    obtain ⟨v, rfl, q⟩ := hf
    exact ⟨_, rfl, v, rfl, q⟩
  · obtain ⟨a, rfl, q⟩ := hv
    exact wpAny_pure q
end
end Mine
end
section
open PySem PySem.W PyProof.Rows PySem.Calls
set_option maxRecDepth 100000
namespace Mine
/-- what type.__new__ leaves: the class's namespace, the class, the slot's descriptor, two temporaries -/
noncomputable abbrev kR (w : World) (x : Nat → Int) (tt : Nat → Tok) (bT sl fI fL fG fE fF fH st : Addr) (t : Tok) (tk : Nat) (ns C md so bm : Addr) : List (Addr × Obj) :=
  [(ns, nsO (((bodyEs2 x tt sl fI fL fG fE fF fH st).push ⟨PyData.keyHash w.params (Str.ofString "obj"), .str (Str.ofString "obj") (tk + 1), .ref md⟩).push ⟨PyData.keyHash w.params (Str.ofString "__doc__"), .str (Str.ofString "__doc__") (tk + 2), .none⟩) 3), (C, clsO { name := Str.ofString "K", bases := [.type "object"], mro := [.ref C, .type "object"], ns := ns, qualname := Str.ofString "cmp_to_key.<locals>.K", hasDict := false, slotNames := [Str.ofString "obj"] } #[some (.ref bT), none, some (.str (Str.ofString "K") t), some (.str (Str.ofString "cmp_to_key.<locals>.K") (tt 3)), some (.builtin "object.__new__"), some (.bool false)]), (md, { cls := .type "member_descriptor", data := .fields #[.str (Str.ofString "obj") tk, .ref C, .builtin "proto.slot", .builtin "proto.slot#set", .int 0 0] }), (so, supO C), (bm, { cls := .type "builtin_function_or_method", data := .fields #[.builtin "object.__init_subclass__", .ref C] })]
set_option maxHeartbeats 8000000 in
theorem type_new (w : World) (A : Around) (h1 : Heap) (g : Array GenState) (d : Drawn) (tk : Nat) (os : OsState) (x : Nat → Int) (tt : Nat → Tok) (bT nA sl fI fL fG fE fF fH st : Addr) (t tl : Tok) (ep : Nat) (dI dL dG dE dF dH : Data) (sv : List Value) (Q E)
  (S : Seg h1 h1 (hdT.heap_1 w.params) (kL x tt bT nA sl fI fL fG fE fF fH st tl ep dI dL dG dE dF dH sv) [])
  (h83 : 83 ≤ nA)
  (hq : ∀ ns C md so bm h', Seg h1 h' (hdT.heap_1 w.params) (kL x tt bT nA sl fI fL fG fE fF fH st tl ep dI dL dG dE dF dH sv) (kR w x tt bT sl fI fL fG fE fF fH st t tk ns C md so bm) → Q (.done (.ret (.ref C))) ⟨h', g, d, tk + 3 + 1, os⟩)
  : wpAny (model Challenge.rw_pe0052_01.row.prog w) A (Builtin.«type.__new__» ⟨[.type "type", .str (Str.ofString "K") t, .ref bT, .ref nA], []⟩) Q E ⟨h1, g, d, tk, os⟩ := by
  rw [Builtin.«type.__new__»]
  refine wpAny_bind (wpAny_pure ?_)
  refine wpAny_bind (seg_pk S 40 [some 0] true [(bT, bT)] (by kernel_rfl!) ⟨rfl, trivial⟩ ?_)
  refine wp_if_neg (by decide) ?_
  refine wpAny_bind (seg_pk S 40 [some 1] true [(nA, nA)] (by kernel_rfl!) ⟨rfl, trivial⟩ ?_)
  refine wp_if_neg (by decide) ?_
  refine wpAny_bind (seg_pk S 40 [some 0] (some #[.type "object"]) [(bT, bT)] (by kernel_rfl!) ⟨rfl, trivial⟩ ?_)
  refine wp_if_neg (by decide) ?_
  refine wpAny_bind (seg_pk S 40 [] () [] (by kernel_rfl!) trivial ?_)
  refine wpAny_bind (seg_pk S 40 [] (.type "type") [] (by kernel_rfl!) trivial ?_)
  refine wp_if_neg (by decide) ?_
  refine wpAny_bind (seg_pk S 40 [] () [] (by kernel_rfl!) trivial ?_)
  refine wpAny_bind (seg_pk S 40 [] (.type "object") [] (by kernel_rfl!) trivial ?_)
  refine wp_if_neg (by show ¬ (nA == 1) = true; intro q; have q' : nA = 1 := (by simpa using q); rw [q'] at h83; exact absurd h83 (by decide)) ?_
  refine wpAny_bind (seg_pk S 40 [some 1] (bodyEs x tt sl fI fL fG fE fF fH st) [(nA, nA)] (by kernel_rfl!) ⟨rfl, trivial⟩ ?_)
  refine wpAny_bind (seg_pk S 40 [some 1] (some (.builtin "dict.__iter__")) [(nA, nA)] (by kernel_rfl!) ⟨rfl, trivial⟩ ?_)
  refine wp_if_pos (by kernel_rfl!) ?_
  refine wpAny_bind (wpAny_pure ?_)
  refine wpAny_bind (wpAny_holding ?_)
  rw [Builtin.Slots.read]
  refine wpAny_bind (seg_pk S 40 [] (.type "object") [] (by kernel_rfl!) trivial ?_)
  refine wpAny_bind (seg_pk S 40 [] [] [] (by kernel_rfl!) trivial ?_)
  refine wpAny_bind (seg_pk S 40 [] false [] (by kernel_rfl!) trivial ?_)
  refine wpAny_bind (seg_pk S 40 [] false [] (by kernel_rfl!) trivial ?_)
  refine wpAny_bind (seg_pk S 40 [] false [] (by kernel_rfl!) trivial ?_)
  rw [show Array.find? (fun x => x.key.isStr (Str.ofString "__slots__")) (bodyEs x tt sl fI fL fG fE fF fH st) = some ⟨x 3, .str (Str.ofString "__slots__") (tt 6), .ref sl⟩ from by kernel_rfl!]
  refine wpAny_bind (wpAny_rule ?_)
  refine wpAny_bind (seg_pk S 40 [some 2] none [(sl, sl)] (by kernel_rfl!) ⟨rfl, trivial⟩ ?_)
  refine wp_if_neg (by decide) ?_
  refine wpAny_bind (collect_keeps (vs := [.str (Str.ofString "obj") tl]) (S.old (p := (sl, _)) (.tail _ (.tail _ (.head _)))) (fun h2 k2 z2 => ?_))
  have S := S.grow k2 z2
  refine seg_pk S 100 [] ⟨[Str.ofString "obj"], false, false, []⟩ [] (by kernel_rfl!) trivial ?_
  refine wpAny_bind (seg_px1 S 40 [] (fun ns => .ref ns) [] (fun ns => [(ns, nsO (bodyEs x tt sl fI fL fG fE fF fH st) 0)]) tk (by kernel_rfl!) trivial (by simp) (fun ns h3 S => ?_))
  refine wp_if_neg (nt (by kernel_rfl!)) ?_
  refine wpAny_bind (seg_pk S 40 [] () [] (by kernel_rfl!) trivial ?_)
  refine wp_if_neg (nt (by kernel_rfl!)) ?_
  refine wpAny_bind (seg_pk S 40 [some 10] (some (.str (Str.ofString "cmp_to_key.<locals>.K") (tt 3))) [(ns, ns)] (by kernel_rfl!) ⟨rfl, trivial⟩ ?_)
  refine wpAny_bind (seg_pk S 40 [some 10] (some (.str (Str.ofString "cmp_to_key.<locals>.K") (tt 3))) [(ns, ns)] (by kernel_rfl!) ⟨rfl, trivial⟩ ?_)
  refine wpAny_bind (wpAny_pure ?_)
  refine wpAny_bind (wpAny_pure ?_)
  refine wpAny_bind (seg_pk S 40 [some 10] none [(ns, ns)] (by kernel_rfl!) ⟨rfl, trivial⟩ ?_)
  refine wpAny_bind (seg_px1 S 40 [] (fun C => C) [] (fun C => [(ns, nsO (bodyEs x tt sl fI fL fG fE fF fH st) 0), (C, clsO { name := Str.ofString "K", bases := [.type "object"], mro := [], ns := ns, qualname := Str.ofString "cmp_to_key.<locals>.K" } #[])]) tk (by kernel_rfl!) trivial (by simp) (fun C h4 S => ?_))
  refine wp_if_pos (by kernel_rfl!) ?_
  refine wpAny_bind (seg_px S 40 [some 11] () [(C, C)] [(ns, nsO (bodyEs x tt sl fI fL fG fE fF fH st) 0), (C, clsO { name := Str.ofString "K", bases := [.type "object"], mro := [], ns := ns, qualname := Str.ofString "cmp_to_key.<locals>.K" } #[some (.ref bT)])] 0 tk (by kernel_rfl!) ⟨rfl, trivial⟩ (by simp) (fun h5 S => ?_))
  refine wpAny_bind (seg_px S 40 [some 11] () [(C, C)] [(ns, nsO (bodyEs x tt sl fI fL fG fE fF fH st) 0), (C, clsO { name := Str.ofString "K", bases := [.type "object"], mro := [], ns := ns, qualname := Str.ofString "cmp_to_key.<locals>.K" } #[some (.ref bT), none, some (.str (Str.ofString "K") t)])] 0 tk (by kernel_rfl!) ⟨rfl, trivial⟩ (by simp) (fun h6 S => ?_))
  refine wpAny_bind (seg_px S 40 [some 11] () [(C, C)] [(ns, nsO (bodyEs x tt sl fI fL fG fE fF fH st) 0), (C, clsO { name := Str.ofString "K", bases := [.type "object"], mro := [], ns := ns, qualname := Str.ofString "cmp_to_key.<locals>.K" } #[some (.ref bT), none, some (.str (Str.ofString "K") t), some (.str (Str.ofString "cmp_to_key.<locals>.K") (tt 3))])] 0 tk (by kernel_rfl!) ⟨rfl, trivial⟩ (by simp) (fun h7 S => ?_))
  refine wpAny_bind (seg_px S 40 [some 10, some 10] true [(ns, ns), (ns, ns)] [(ns, nsO (bodyEs2 x tt sl fI fL fG fE fF fH st) 1), (C, clsO { name := Str.ofString "K", bases := [.type "object"], mro := [], ns := ns, qualname := Str.ofString "cmp_to_key.<locals>.K" } #[some (.ref bT), none, some (.str (Str.ofString "K") t), some (.str (Str.ofString "cmp_to_key.<locals>.K") (tt 3))])] 0 tk (by kernel_rfl!) ⟨rfl, rfl, trivial⟩ (by simp) (fun h8 S => ?_))
  refine wpAny_bind (seg_pk S 40 [some 10] none [(ns, ns)] (by kernel_rfl!) ⟨rfl, trivial⟩ ?_)
  refine wpAny_bind (seg_pk S 40 [some 10, some 10] () [(ns, ns), (ns, ns)] (by kernel_rfl!) ⟨rfl, rfl, trivial⟩ ?_)
  refine wpAny_bind (seg_pk S 40 [some 10] none [(ns, ns)] (by kernel_rfl!) ⟨rfl, trivial⟩ ?_)
  refine wpAny_bind (seg_pk S 40 [some 10] none [(ns, ns)] (by kernel_rfl!) ⟨rfl, trivial⟩ ?_)
  refine wpAny_bind (seg_pk S 40 [] none [] (by kernel_rfl!) trivial ?_)
  refine wpAny_bind (seg_pk S 40 [] [.type "object"] [] (by kernel_rfl!) trivial ?_)
  refine wpAny_bind (wpAny_pure ?_)
  refine wpAny_bind ?_
  rw [show List.filter (fun y => y != Value.ref C) (Value.ref C :: [Value.type "object"]) = [Value.type "object"] from by
    rw [List.filter_cons, if_neg (by simp)]; kernel_rfl!]
  refine seg_pk S 40 [] false [] (by kernel_rfl!) trivial ?_
  refine wpAny_bind (seg_px S 40 [some 11, some 11, some 11] () [(C, C), (C, C), (C, C)] [(ns, nsO (bodyEs2 x tt sl fI fL fG fE fF fH st) 1), (C, clsO { name := Str.ofString "K", bases := [.type "object"], mro := [.ref C, .type "object"], ns := ns, qualname := Str.ofString "cmp_to_key.<locals>.K" } #[some (.ref bT), none, some (.str (Str.ofString "K") t), some (.str (Str.ofString "cmp_to_key.<locals>.K") (tt 3))])] 0 tk (by kernel_rfl!) ⟨rfl, rfl, rfl, trivial⟩ (by simp) (fun h9 S => ?_))
  refine wpAny_bind (seg_pk S 40 [] (some "object.__new__") [] (by kernel_rfl!) trivial ?_)
  refine wpAny_bind (seg_px S 40 [some 11] () [(C, C)] [(ns, nsO (bodyEs2 x tt sl fI fL fG fE fF fH st) 1), (C, clsO { name := Str.ofString "K", bases := [.type "object"], mro := [.ref C, .type "object"], ns := ns, qualname := Str.ofString "cmp_to_key.<locals>.K" } #[some (.ref bT), none, some (.str (Str.ofString "K") t), some (.str (Str.ofString "cmp_to_key.<locals>.K") (tt 3)), some (.builtin "object.__new__")])] 0 tk (by kernel_rfl!) ⟨rfl, trivial⟩ (by simp) (fun h10 S => ?_))
  refine wpAny_bind (seg_pk S 40 [some 11, some 11, some 11, some 10] () [(ns, ns), (C, C), (C, C), (C, C)] (by kernel_rfl!) ⟨rfl, rfl, rfl, rfl, trivial⟩ ?_)
  refine wpAny_bind (seg_px1 S 100 [some 10, some 10, some 10, some 10, some 11, some 11, some 11] (fun _ => ()) [(C, C), (C, C), (C, C), (ns, ns), (ns, ns), (ns, ns), (ns, ns)]
    (fun md => [(ns, nsO ((bodyEs2 x tt sl fI fL fG fE fF fH st).push ⟨PyData.keyHash w.params (Str.ofString "obj"), .str (Str.ofString "obj") (tk + 1), .ref md⟩) 2), (C, clsO { name := Str.ofString "K", bases := [.type "object"], mro := [.ref C, .type "object"], ns := ns, qualname := Str.ofString "cmp_to_key.<locals>.K", hasDict := false, slotNames := [Str.ofString "obj"] } #[some (.ref bT), none, some (.str (Str.ofString "K") t), some (.str (Str.ofString "cmp_to_key.<locals>.K") (tt 3)), some (.builtin "object.__new__")]), (md, { cls := .type "member_descriptor", data := .fields #[.str (Str.ofString "obj") tk, .ref C, .builtin "proto.slot", .builtin "proto.slot#set", .int 0 0] })]) (tk + 2) (by kernel_rfl!) ⟨rfl, rfl, rfl, rfl, rfl, rfl, rfl, trivial⟩ (by simp) (fun md h11 S => ?_))
  refine wpAny_bind (seg_pk S 40 [] false [] (by kernel_rfl!) trivial ?_)
  refine wpAny_bind (seg_px S 40 [some 11] () [(C, C)] [(ns, nsO ((bodyEs2 x tt sl fI fL fG fE fF fH st).push ⟨PyData.keyHash w.params (Str.ofString "obj"), .str (Str.ofString "obj") (tk + 1), .ref md⟩) 2), (C, clsO { name := Str.ofString "K", bases := [.type "object"], mro := [.ref C, .type "object"], ns := ns, qualname := Str.ofString "cmp_to_key.<locals>.K", hasDict := false, slotNames := [Str.ofString "obj"] } #[some (.ref bT), none, some (.str (Str.ofString "K") t), some (.str (Str.ofString "cmp_to_key.<locals>.K") (tt 3)), some (.builtin "object.__new__"), some (.bool false)]), (md, { cls := .type "member_descriptor", data := .fields #[.str (Str.ofString "obj") tk, .ref C, .builtin "proto.slot", .builtin "proto.slot#set", .int 0 0] })] 0 (tk + 2) (by kernel_rfl!) ⟨rfl, trivial⟩ (by simp) (fun h12 S => ?_))
  refine wp_if_neg (nt (by kernel_rfl!)) ?_
  refine wp_if_neg (nt (by kernel_rfl!)) ?_
  refine wpAny_bind (seg_pk S 40 [some 10] none [(ns, ns)] (by kernel_rfl!) ⟨rfl, trivial⟩ ?_)
  refine wp_if_pos (by kernel_rfl!) ?_
  refine wpAny_bind (seg_px S 40 [some 10, some 10] () [(ns, ns), (ns, ns)] [(ns, nsO (((bodyEs2 x tt sl fI fL fG fE fF fH st).push ⟨PyData.keyHash w.params (Str.ofString "obj"), .str (Str.ofString "obj") (tk + 1), .ref md⟩).push ⟨PyData.keyHash w.params (Str.ofString "__doc__"), .str (Str.ofString "__doc__") (tk + 2), .none⟩) 3), (C, clsO { name := Str.ofString "K", bases := [.type "object"], mro := [.ref C, .type "object"], ns := ns, qualname := Str.ofString "cmp_to_key.<locals>.K", hasDict := false, slotNames := [Str.ofString "obj"] } #[some (.ref bT), none, some (.str (Str.ofString "K") t), some (.str (Str.ofString "cmp_to_key.<locals>.K") (tt 3)), some (.builtin "object.__new__"), some (.bool false)]), (md, { cls := .type "member_descriptor", data := .fields #[.str (Str.ofString "obj") tk, .ref C, .builtin "proto.slot", .builtin "proto.slot#set", .int 0 0] })] 0 (tk + 3) (by kernel_rfl!) ⟨rfl, rfl, trivial⟩ (by simp) (fun h13 S => ?_))
  refine wpAny_bind (seg_pk S 40 [some 10] (some (.ref fE)) [(ns, ns)] (by kernel_rfl!) ⟨rfl, trivial⟩ ?_)
  refine wp_if_pos (by kernel_rfl!) ?_
  refine wpAny_bind (seg_pk S 40 [some 10] (some .none) [(ns, ns)] (by kernel_rfl!) ⟨rfl, trivial⟩ ?_)
  refine wp_if_neg (nt (by kernel_rfl!)) ?_
  refine wpAny_bind (seg_pk S 40 [] () [] (by kernel_rfl!) trivial ?_)

  refine wpAny_bind (wpAny_tryCatch (wpAny_holding ?_))
  refine wpAny_bind (seg_pk S 40 [some 10] (((bodyEs2 x tt sl fI fL fG fE fF fH st).push ⟨PyData.keyHash w.params (Str.ofString "obj"), .str (Str.ofString "obj") (tk + 1), .ref md⟩).push ⟨PyData.keyHash w.params (Str.ofString "__doc__"), .str (Str.ofString "__doc__") (tk + 2), .none⟩) [(ns, ns)] (by kernel_rfl!) ⟨rfl, trivial⟩ ?_)
  refine wpAny_bind (seg_pk S 100 [] false [] (by kernel_rfl!) trivial ?_)
  refine wp_if_neg (nt rfl) ?_
  refine wpAny_bind (seg_pk S 40 [some 10] (((bodyEs2 x tt sl fI fL fG fE fF fH st).push ⟨PyData.keyHash w.params (Str.ofString "obj"), .str (Str.ofString "obj") (tk + 1), .ref md⟩).push ⟨PyData.keyHash w.params (Str.ofString "__doc__"), .str (Str.ofString "__doc__") (tk + 2), .none⟩) [(ns, ns)] (by kernel_rfl!) ⟨rfl, trivial⟩ ?_)
  refine wpAny_bind (seg_pk S 200 [some 2, some 3, some 4, some 5, some 6, some 7, some 8, some 9, some 12] () [(md, md), (st, st), (fH, fH), (fF, fF), (fE, fE), (fG, fG), (fL, fL), (fI, fI), (sl, sl)] (by kernel_rfl!) ⟨rfl, rfl, rfl, rfl, rfl, rfl, rfl, rfl, rfl, trivial⟩ ?_)
  refine wpAny_bind (super_seg S (.tail _ (.head _)) rfl rfl (fun so h14 S => ?_))
  refine wpAny_bind (wpAny_holding (super_road (S.nw (p := (so, supO C)) (by simp)) rfl (fun A' => ?_)))
  rw [Builtin.«super.__getattribute__»]
  refine wpAny_bind (wpAny_pure ?_)
  refine wp_if_neg (nt rfl) ?_
  refine wpAny_bind (wpAny_pure ?_)
  refine wpAny_bind (seg_pk S 40 [some 13] (.ref C) [(so, so)] (by kernel_rfl!) ⟨rfl, trivial⟩ ?_)
  refine wpAny_bind (seg_pk S 40 [some 13] (.ref C) [(so, so)] (by kernel_rfl!) ⟨rfl, trivial⟩ ?_)
  refine wpAny_bind (seg_pk S 40 [some 13] (.ref C) [(so, so)] (by kernel_rfl!) ⟨rfl, trivial⟩ ?_)
  refine wp_if_neg (nt (by kernel_rfl!)) ?_
  refine wpAny_bind (seg_pk S 40 [none] () [] (by kernel_rfl!) trivial ?_)
  refine wp_if_neg (nt (by kernel_rfl!)) ?_
  refine wpAny_bind (seg_pk S 40 [some 11] [.ref C, .type "object"] [(C, C)] (by kernel_rfl!) ⟨rfl, trivial⟩ ?_)
  rw [show List.drop 1 (List.dropWhile (fun y => y != Value.ref C) [Value.ref C, Value.type "object"]) = [Value.type "object"] from by simp]
  refine wpAny_bind ?_
  rw [List.forIn_cons]
  refine wpAny_bind ?_
  refine wpAny_bind (seg_pk S 40 [] (some (.builtin "object.__init_subclass__")) [] (by kernel_rfl!) trivial ?_)
  refine wpAny_bind (seg_pk S 40 [] (.type "classmethod_descriptor") [] (by kernel_rfl!) trivial ?_)
  refine wpAny_bind (seg_pk S 40 [] (some (.builtin "classmethod_descriptor.__get__")) [] (by kernel_rfl!) trivial ?_)
  refine wpAny_bind (wpAny_holding ?_)
  rw [show (if (Value.ref C == Value.ref C) = true then Value.none else Value.ref C) = Value.none from by simp]
  refine bcall (by decide +kernel) entry_cmd_get (by kernel_rfl!) (by kernel_rfl!) fun A'' => ?_
  refine seg_px1 S 100 [some 11, some 11] (fun bm => .done (.ret (.ref bm))) [(C, C), (C, C)] (fun bm => [(ns, nsO (((bodyEs2 x tt sl fI fL fG fE fF fH st).push ⟨PyData.keyHash w.params (Str.ofString "obj"), .str (Str.ofString "obj") (tk + 1), .ref md⟩).push ⟨PyData.keyHash w.params (Str.ofString "__doc__"), .str (Str.ofString "__doc__") (tk + 2), .none⟩) 3), (C, clsO { name := Str.ofString "K", bases := [.type "object"], mro := [.ref C, .type "object"], ns := ns, qualname := Str.ofString "cmp_to_key.<locals>.K", hasDict := false, slotNames := [Str.ofString "obj"] } #[some (.ref bT), none, some (.str (Str.ofString "K") t), some (.str (Str.ofString "cmp_to_key.<locals>.K") (tt 3)), some (.builtin "object.__new__"), some (.bool false)]), (md, { cls := .type "member_descriptor", data := .fields #[.str (Str.ofString "obj") tk, .ref C, .builtin "proto.slot", .builtin "proto.slot#set", .int 0 0] }), (so, supO C), (bm, { cls := .type "builtin_function_or_method", data := .fields #[.builtin "object.__init_subclass__", .ref C] })]) (tk + 3 + 1) (by kernel_rfl!) ⟨rfl, rfl, trivial⟩ (by simp) (fun bm h15 S => ⟨_, rfl, ?_⟩)
  refine wpAny_bind (wpAny_pure (wpAny_pure (wpAny_pure (wpAny_pure ⟨_, rfl, ?_⟩))))
  refine wpAny_bind (wpAny_call (codeAny_of_tree ?_))
  show wpAny _ _ (callAny (.ref bm) ⟨[], []⟩) _ _ _
  refine seg_pk S 100 [some 14, some 11, some 11, some 11, some 11] (.again (.builtin "object.__init_subclass__" ⟨[.ref C], []⟩)) [(C, C), (C, C), (C, C), (C, C), (bm, bm)] (by kernel_rfl!) ⟨rfl, rfl, rfl, rfl, rfl, trivial⟩ ?_
  refine ⟨plainId_quiet (by decide +kernel) _, codeAny_builtin entry_init_sub ?_⟩
  refine wpAny_pure (wpAny_pure (wpAny_pure ?_))
  exact hq ns C md so bm h15 S
end Mine
end
section
open PySem PySem.W PyProof.Rows PySem.Calls
set_option maxRecDepth 100000
namespace Mine
theorem slot_type_init : Slot "type" "__init__" "type.__init__" := .of (owner := "type") (n := "__init__") (by rw [typeLookup_type, builtinLookup_eq_fast]; kernel_rfl!) (by decide +kernel) (by decide +kernel) (by decide +kernel)
  (.inl (by decide +kernel)) (by kernel_rfl!)
theorem entry_type_init : entryFor table "type.__init__" = some Builtin.«type.__init__» := entryFor_of_tree (by kernel_rfl!)
theorem entry_type_new : entryFor table "type.__new__" = some Builtin.«type.__new__» := entryFor_of_tree (by kernel_rfl!)
set_option maxHeartbeats 8000000 in
theorem type_call (w : World) (A : Around) (h1 : Heap) (g : Array GenState) (d : Drawn) (tk : Nat) (os : OsState) (x : Nat → Int) (tt : Nat → Tok) (bT nA sl fI fL fG fE fF fH st : Addr) (t tl : Tok) (ep : Nat) (dI dL dG dE dF dH : Data) (sv : List Value) (Q E)
  (S : Seg h1 h1 (hdT.heap_1 w.params) (kL x tt bT nA sl fI fL fG fE fF fH st tl ep dI dL dG dE dF dH sv) [])
  (h83 : 83 ≤ nA)
  (hq : ∀ ns C md so bm h', Seg h1 h' (hdT.heap_1 w.params) (kL x tt bT nA sl fI fL fG fE fF fH st tl ep dI dL dG dE dF dH sv) (kR w x tt bT sl fI fL fG fE fF fH st t tk ns C md so bm) → Q (.ref C) ⟨h', g, d, tk + 3 + 1, os⟩)
  : wpAny (model Challenge.rw_pe0052_01.row.prog w) A (call (.type "type") [.str (Str.ofString "K") t, .ref bT, .ref nA]) Q E ⟨h1, g, d, tk, os⟩ := by
  refine wpAny_call (codeAny_of_tree ?_)
  show wpAny _ _ (callAny (.type "type") _) _ _ _
  refine wpAny_pure ⟨Code.quiet_builtin _ (by decide +kernel), codeAny_builtin F.entry_type_call ?_⟩
  rw [Around.under_plain (weight_type_call_type "type" _ []) rfl]
  rw [Builtin.«type.__call__»]
  refine wp_if_pos (by decide) ?_
  refine wp_if_neg (by simp) ?_
  refine wp_if_neg (by simp) ?_
  refine wp_if_neg (nt (by kernel_rfl!)) ?_
  refine wpAny_bind (seg_pk S 40 [] () [] (by kernel_rfl!) trivial ?_)
  refine wpAny_bind (seg_pk S 40 [] [.type "type", .type "object"] [] (by kernel_rfl!) trivial ?_)
  refine wp_if_neg (nt (by kernel_rfl!)) ?_
  refine wpAny_bind (seg_pk S 40 [] (some "type.__new__") [] (by kernel_rfl!) trivial ?_)
  refine wpAny_bind (wpAny_pure ?_)
  refine wpAny_bind (wpAny_holding ?_)
  refine bcall (by decide +kernel) entry_type_new (by kernel_rfl!) (by kernel_rfl!) fun A'' => ?_
  refine type_new w A'' h1 g d tk os x tt bT nA sl fI fL fG fE fF fH st t tl ep dI dL dG dE dF dH sv _ _ S h83 (fun ns C md so bm h' S => ⟨_, rfl, ?_⟩)
  refine wpAny_bind (seg_pk S 40 [some 11] true [(C, C)] (by kernel_rfl!) ⟨rfl, trivial⟩ ?_)
  refine wp_if_neg (nt rfl) ?_
  refine wpAny_bind (wpAny_holding (wpAny_callSpecial?_slot (T := "type") ⟨_, S.nw (.tail _ (.head _)), rfl⟩ slot_type_init ?_))
  refine wpAny_call_entry slot_type_init ⟨_, S.nw (.tail _ (.head _)), rfl⟩ entry_type_init ?_ (by unfold argsOk; kernel_rfl!)
  refine wpAny_pure ⟨_, rfl, ?_⟩
  refine wp_if_neg (by decide) ?_
  exact wpAny_pure (hq ns C md so bm h' S)
end Mine
end
section
open PySem PySem.W PyProof.Rows PySem.Calls
set_option maxRecDepth 100000
set_option maxHeartbeats 8000000
namespace Mine
theorem entry_type_ga : entryFor table "type.__getattribute__" = some Builtin.«type.__getattribute__» := entryFor_of_tree (by kernel_rfl!)
theorem entry_type_prep : entryFor table "type.__prepare__" = some Builtin.«type.__prepare__» := entryFor_of_tree (by kernel_rfl!)
noncomputable abbrev prepO : Obj := { cls := .type "builtin_function_or_method", data := .fields #[.builtin "type.__prepare__", .type "type"] }
section
variable {prog : Program} {w : World} {A : Around} {E : Value → Shared → Prop} {K : Frag} {R : List (Addr × Obj)} {h₀ : Heap}
  {h : Heap} {g : Array GenState} {d : Drawn} {tk : Nat} {os : OsState}
theorem SegT.add {h' : Heap} {o : Obj} (S : SegT h₀ h K R) (ho : h'.get? h.objs.size = some o) (k : ∀ b o, h.get? b = some o → h'.get? b = some o) : SegT h₀ h' K (R ++ [(h.objs.size, o)]) := by
  refine ⟨⟨rfl, fun p hp => ?_, ?_⟩, fun b o nb e => k b o (S.stays b o nb e), fun p hp => ?_, S.kin, S.ke, ?_⟩
  · rcases List.mem_append.mp hp with hp | hp
    · exact k _ _ (S.led.at' p hp)
    · rw [List.mem_singleton.mp hp]; exact ho
  · rw [List.map_append, List.nodup_append]
    refine ⟨S.led.nd, by simp, fun a ha b hb e => ?_⟩
    have hl := S.led.lt ha
    have hb' : b = h.objs.size := by simpa using hb
    rw [e, hb'] at hl
    exact Nat.lt_irrefl _ hl
  · rcases List.mem_append.mp hp with hp | hp
    · exact S.new p hp
    · rw [List.mem_singleton.mp hp]; exact .inl S.sz
  · exact Nat.le_trans S.sz (Nat.le_of_lt (Heap.lt_size ho))
theorem prep_attr {Q : Option Value → Shared → Prop}
    (S : SegT h₀ h K R) {b : Nat} (hb : h.objs.size = b) (hq : ∀ h', h'.objs.size = b + 1 → SegT h₀ h' K (R ++ [(b, prepO)]) → Q (some (.ref b)) ⟨h', g, d, tk + 1, os⟩) :
    wpAny (model prog w) A (getAttr? (.type "type") (Str.ofString "__prepare__")) Q E ⟨h, g, d, tk, os⟩ := by
  unfold getAttr? getAttrBy?
  refine wpAny_bind (wpAny_mkText ?_)
  refine wpAny_bind (wpAny_attempt ?_)
  unfold getAttrBy
  refine wpAny_holding ?_
  have pk0 : ∀ {α : Type} {A : Around} {t : Sem α} {v : α} {Q' : α → Shared → Prop} {E' : Value → Shared → Prop} {s : Shared} (f : Nat), pk [] ⟨prog, w.params⟩ [] f [] [] t = some (v, []) → Q' v s → wpAny (model prog w) A t Q' E' s := by
    intro α A t v Q' E' s f e q
    exact pk_wp f [] v [] e (fun a o e => by cases e) (fun p hp => by cases hp) trivial q
  refine wpAny_bind (pk0 40 (v := .type "type") (by kernel_rfl!) ?_)
  refine wpAny_bind (pk0 40 (v := some (.builtin "type.__getattribute__")) (by kernel_rfl!) ?_)
  refine wp_if_neg (nt (by kernel_rfl!)) ?_
  unfold getAttrByItsOwn
  refine wpAny_bind (pk0 40 (v := none) (by kernel_rfl!) ?_)
  refine wpAny_bind (wpAny_attempt (wpAny_holding ?_))
  unfold callGetattribute boundAndCalled
  refine wp_if_neg (nt (by kernel_rfl!)) ?_
  refine wpAny_bind (pk0 40 (v := (.builtin "type.__getattribute__", [.type "type"])) (by kernel_rfl!) ?_)
  refine bcall (by decide +kernel) entry_type_ga (by kernel_rfl!) (by kernel_rfl!) fun A'' => ?_
  rw [Builtin.«type.__getattribute__»]
  refine wpAny_bind (pk0 40 (v := some (Str.ofString "__prepare__")) (by kernel_rfl!) ?_)
  refine wpAny_bind (pk0 40 (v := none) (by kernel_rfl!) ?_)
  refine wpAny_bind (pk0 40 (v := .type "type") (by kernel_rfl!) ?_)
  refine wpAny_bind (pk0 40 (v := some (.builtin "type.__prepare__")) (by kernel_rfl!) ?_)
  refine wpAny_bind (pk0 40 (v := some (.builtin "classmethod_descriptor.__get__")) (by kernel_rfl!) ?_)
  refine wpAny_bind (pk0 40 (v := none) (by kernel_rfl!) ?_)
  refine wp_if_neg (nt (by kernel_rfl!)) ?_
  refine wpAny_bind (pk0 40 (v := none) (by kernel_rfl!) ?_)
  refine wpAny_bind (wpAny_pure ?_)
  refine wp_if_neg (nt rfl) ?_
  refine wpAny_bind (pk0 40 (v := some (.builtin "type.__prepare__")) (by kernel_rfl!) ?_)
  refine wp_if_neg (nt (by kernel_rfl!)) ?_
  refine wpAny_bind (pk0 40 (v := .type "classmethod_descriptor") (by kernel_rfl!) ?_)
  refine wp_if_neg (nt (by kernel_rfl!)) ?_
  refine wpAny_bind (pk0 40 (v := some (.builtin "classmethod_descriptor.__get__")) (by kernel_rfl!) ?_)
  refine wpAny_bind (wpAny_holding ?_)
  refine bcall (by decide +kernel) entry_cmd_get (by kernel_rfl!) (by kernel_rfl!) fun A'' => ?_
  refine segT_px S 100 [] hb (.done (.ret (.ref b))) [] (R ++ [(b, prepO)]) 1 (tk + 1) (by kernel_rfl!) rfl (fun h' hb' S' => ⟨_, rfl, ?_⟩)
  exact wpAny_pure ⟨_, rfl, wpAny_pure (wpAny_pure (hq h' hb' S'))⟩
/-- the call of the bound __prepare__ -/
theorem prep_call {Q : Value → Shared → Prop} (args : List Value) (bm : Addr) (S : SegT h₀ h K R) (hm : h.get? bm = some prepO)
    {b : Nat} (hb : h.objs.size = b) (hq : ∀ h', h'.objs.size = b + 1 → SegT h₀ h' K (R ++ [(b, nsO #[] 0)]) → Q (.ref b) ⟨h', g, d, tk, os⟩) :
    wpAny (model prog w) A (call (.ref bm) args) Q E ⟨h, g, d, tk, os⟩ := by
  refine wpAny_call (codeAny_of_tree ?_)
  show wpAny _ _ (callAny (.ref bm) ⟨args, []⟩) _ _ _
  refine pk_wp (K := []) (L := [(bm, prepO)]) (s := ⟨h, g, d, tk, os⟩) 100 [some 0] (.again (.builtin "type.__prepare__" ⟨.type "type" :: args, []⟩)) [(bm, bm)] (by kernel_rfl!) (fun a o e => by cases e) (fun p hp => by rw [List.mem_singleton.mp hp]; exact hm) ⟨rfl, trivial⟩ ?_
  refine ⟨plainId_quiet (by decide +kernel) _, codeAny_builtin entry_type_prep ?_⟩
  rw [Builtin.«type.__prepare__»]
  refine wpAny_bind ?_
  refine segT_px S 100 [] hb (.ref b) [] (R ++ [(b, nsO #[] 0)]) 1 tk (by kernel_rfl!) rfl (fun h' hb' S' => ?_)
  exact wpAny_pure (hq h' hb' S')
end
end Mine
end
section
open PySem PySem.W PyProof.Rows PySem.Calls
namespace Mine
noncomputable def esOf (o : Obj) : Array DictEntry := match o.data with | .dict es _ => es | _ => #[]
noncomputable def epOf (o : Obj) : Nat := match o.data with | .dict _ ep => ep | _ => 0
noncomputable def svOf (o : Obj) : List Value := match o.data with | .seq vs _ => vs.toList | _ => []
noncomputable def tokOf : Value → Tok
  | .str _ t => t
  | .int _ t => t
  | _ => 0
noncomputable def entOf (es : Array DictEntry) (i : Nat) : DictEntry := es.toList.getD i ⟨0, .none, .none⟩
noncomputable def xOf (es : Array DictEntry) (i : Nat) : Int := (entOf es i).hash
noncomputable def ttOf (es : Array DictEntry) : Nat → Tok
  | 0 => tokOf (entOf es 0).key
  | 1 => tokOf (entOf es 0).val
  | 2 => tokOf (entOf es 1).key
  | 3 => tokOf (entOf es 1).val
  | 4 => tokOf (entOf es 2).key
  | 5 => tokOf (entOf es 2).val
  | n + 6 => tokOf (entOf es (n + 3)).key
theorem pxGet_mem {R : List (Addr × Obj)} {i : Nat} (h : i < R.length) : pxGet R i ∈ R := by
  unfold pxGet; rw [List.getD_eq_getElem?_getD, List.getElem?_eq_getElem h]; exact List.getElem_mem h
theorem pxGet_inj {R : List (Addr × Obj)} (nd : (R.map (·.1)).Nodup) {i j : Nat} (hi : i < R.length) (hj : j < R.length) (e : (pxGet R i).1 = (pxGet R j).1) : i = j := by
  unfold pxGet at e
  rw [List.getD_eq_getElem?_getD, List.getElem?_eq_getElem hi, List.getD_eq_getElem?_getD, List.getElem?_eq_getElem hj] at e
  have li : i < (R.map (·.1)).length := by rw [List.length_map]; exact hi
  have lj : j < (R.map (·.1)).length := by rw [List.length_map]; exact hj
  refine (List.getElem_inj nd (h₀ := li) (h₁ := lj)).mp ?_
  rw [List.getElem_map, List.getElem_map]; exact e
theorem SegT.seg {h₀ h : Heap} {K K' : Frag} {R : List (Addr × Obj)} (S : SegT h₀ h K R) (is : List Nat) (L : List (Addr × Obj)) (hK : K'.In h₀) (k16 : K'.lookup 16 = none)
    (hL : L = is.map (pxGet R)) (hi : is.all (fun i => Nat.blt i R.length) = true) (hnd : is.Nodup) (h0 : (pxGet R 0).1 = 16) (hn : 0 ∉ is) (hR : Nat.blt 0 R.length = true) : Seg h h K' L [] := by
  have lt : ∀ i ∈ is, i < R.length := fun i hm => Nat.le_of_ble_eq_true (List.all_eq_true.mp hi i hm)
  have ge : ∀ p ∈ L, h₀.objs.size ≤ p.1 := by
    intro p hp
    rw [hL] at hp
    obtain ⟨i, hm, rfl⟩ := List.mem_map.mp hp
    rcases S.new _ (pxGet_mem (lt i hm)) with q | q
    · exact q
    · exact absurd (pxGet_inj S.led.nd (lt i hm) (Nat.le_of_ble_eq_true hR) (q.trans h0.symm)) (fun z => hn (z ▸ hm))
  have kin : K'.In h := fun a o e => S.stays a o (fun q => by rw [q, k16] at e; cases e) (hK a o e)
  refine ⟨⟨rfl, fun p hp => ?_, ?_⟩, fun b o e => e, by simp, kin, fun a o e hm => ?_, Nat.le_refl _⟩
  · rw [List.append_nil, hL] at hp
    obtain ⟨i, hm, rfl⟩ := List.mem_map.mp hp
    exact S.led.at' _ (pxGet_mem (lt i hm))
  · rw [List.append_nil, hL, List.map_map]
    refine List.pairwise_map.mpr (hnd.imp_of_mem fun {i j} mi mj ne q => ne (pxGet_inj S.led.nd (lt i mi) (lt j mj) q))
  · obtain ⟨p, hp, rfl⟩ := List.mem_map.mp hm
    exact absurd (Heap.lt_size (hK _ _ e)) (Nat.not_lt.mpr (ge p hp))
end Mine
namespace Mine
/-- the parts that the class is made of, read off the ledger of the body's run -/
noncomputable abbrev kLof (R : List (Addr × Obj)) (m : Nat) : List (Addr × Obj) :=
  kL (xOf (esOf (pxGet R 3).2)) (ttOf (esOf (pxGet R 3).2)) (m + 83) (m + 83 + 2) (m + 83 + 7) (m + 83 + 14) (m + 83 + 22) (m + 83 + 30) (m + 83 + 38) (m + 83 + 46) (m + 83 + 54) (m + 83 + 55)
    (tokOf ((svOf (pxGet R 8).2).headD .none)) (epOf (pxGet R 3).2) (pxGet R 15).2.data (pxGet R 23).2.data (pxGet R 31).2.data (pxGet R 39).2.data (pxGet R 47).2.data (pxGet R 55).2.data (svOf (pxGet R 56).2)
theorem SegT.segK {h₀ h : Heap} {K K' : Frag} {R : List (Addr × Obj)} {m : Nat} (S : SegT h₀ h K R) (hK : K'.In h₀) (k16 : K'.lookup 16 = none)
    (hL : kLof R m = [1, 3, 8, 15, 23, 31, 39, 47, 55, 56].map (pxGet R)) (hi : R.length = 57) (h0 : (pxGet R 0).1 = 16) :
    ∃ x tt tl ep dI dL dG dE dF dH sv, Seg h h K' (kL x tt (m + 83) (m + 83 + 2) (m + 83 + 7) (m + 83 + 14) (m + 83 + 22) (m + 83 + 30) (m + 83 + 38) (m + 83 + 46) (m + 83 + 54) (m + 83 + 55) tl ep dI dL dG dE dF dH sv) [] ∧
      dI = (pxGet R 15).2.data ∧ dL = (pxGet R 23).2.data :=
  ⟨_, _, _, _, _, _, _, _, _, _, _, S.seg [1, 3, 8, 15, 23, 31, 39, 47, 55, 56] _ hK k16 hL (by rw [hi]; decide) (by decide) h0 (by decide) (by rw [hi]; decide), rfl, rfl⟩
end Mine
end
section
open PySem PySem.W PyProof.Rows PySem.Calls
set_option maxRecDepth 100000
namespace Mine
/-- the class statement's body, read off the function cmp_to_key -/
noncomputable def kBody (P : Params) : List Stmt := match (hdT.heap_1 P).lookup 21 with
  | some ⟨_, _, .func fd, _⟩ => (match fd.body with
    | .stmts (.ClassDef _ _ _ b _ _ _ _ _ _ _ :: _) => b
    | _ => [])
  | _ => []
noncomputable def kDef (P : Params) (i : Nat) : Arguments × List Stmt × Scope := match (kBody P)[i]? with
  | some (.FunctionDef _ ps b _ _ _ sc _ _ _) => (ps, b, sc)
  | _ => (⟨[], [], none, [], [], none, []⟩, [], { kind := .function, names := [], isGenerator := false, isCoroutine := false })
noncomputable def mFd (P : Params) (i : Nat) (name : PySem.Str) (clo : List (PySem.Str × Addr)) (ct code pm : Value) : FuncData :=
  { name := name, qualname := Str.ofString "cmp_to_key.<locals>.K." ++ name, params := (kDef P i).1, body := .stmts (kDef P i).2.1, scope := (kDef P i).2.2, globals := mainGlobals, closure := clo, closureTuple := ct,
    code := code, builtins := builtinsNs, defaults := .none, kwdefaults := .none, annotations := none, pyModule := pm, doc := .none }
noncomputable def pmOf (d : Data) : Value := match d with | .func fd => fd.pyModule | _ => .none
theorem func_of {d d' : Data} (F : Value → Data) (e : d = d') (k : d' = F (pmOf d')) : ∃ pm, d = F pm := ⟨pmOf d', e.trans k⟩
end Mine
end
section
open PySem PySem.W PyProof.Rows PySem.Calls
set_option maxRecDepth 100000
namespace Mine
noncomputable def nameAt (o : Obj) : Option PySem.Str := match o.data with
  | .fields vs => (match (vs[1]? : Option Value) with | some (Value.str q _) => some q | _ => none)
  | _ => none
theorem codeRec_at {h : Heap} {c : Addr} {o : Obj} {q : PySem.Str} (ho : h.get? c = some o) (e : nameAt o = some q) : h.CodeRec (.ref c) q := by
  unfold nameAt at e
  split at e
  · rename_i vs hd
    split at e
    · rename_i q' t hv; cases e; exact ⟨c, o, vs, t, rfl, ho, hd, hv⟩
    · cases e
  · cases e
theorem SegT.code {h₀ h : Heap} {K : Frag} {R : List (Addr × Obj)} (S : SegT h₀ h K R) (i : Nat) {a : Addr} {q : PySem.Str} (hi : Nat.blt i R.length = true) (ha : (pxGet R i).1 = a) (e : nameAt (pxGet R i).2 = some q) : ∃ o, h.get? a = some o ∧ nameAt o = some q :=
  ⟨_, ha ▸ S.led.at' _ (pxGet_mem (Nat.le_of_ble_eq_true hi)), e⟩
/-- where the class's parts lie -/
structure KAd where
  (x : Nat → Int) (tt : Nat → Tok) (bT sl fI fL fG fE fF fH st : Addr) (t : Tok) (tk : Nat) (ns C md so bm cell ctL cI cL : Addr) (pI pL : Value) (oc : Obj)
/-- the class K stands -/
structure KAt (w : World) (h : Heap) (k : KAd) : Prop where
  kin : (kk w.params).In h
  cls : ∀ p ∈ kR w k.x k.tt k.bT k.sl k.fI k.fL k.fG k.fE k.fF k.fH k.st k.t k.tk k.ns k.C k.md k.so k.bm, h.get? p.1 = some p.2
  nd : ((kR w k.x k.tt k.bT k.sl k.fI k.fL k.fG k.fE k.fF k.fH k.st k.t k.tk k.ns k.C k.md k.so k.bm).map (·.1)).Nodup
  fI : h.get? k.fI = some (fnO (.func (mFd w.params 2 (Str.ofString "__init__") [] .none (.ref k.cI) k.pI)))
  fL : h.get? k.fL = some (fnO (.func (mFd w.params 3 (Str.ofString "__lt__") [(Str.ofString "mycmp", k.cell)] (.ref k.ctL) (.ref k.cL) k.pL)))
  codeI : h.CodeRec (.ref k.cI) (Str.ofString "cmp_to_key.<locals>.K." ++ Str.ofString "__init__")
  codeL : h.CodeRec (.ref k.cL) (Str.ofString "cmp_to_key.<locals>.K." ++ Str.ofString "__lt__")
  cell : h.get? k.cell = some k.oc
  cellD : k.oc.data = .cell (some (.ref 63))
  big : 83 ≤ k.C
/-- the class's parts are new -/
structure KNew (w : World) (n : Nat) (k : KAd) : Prop where
  cls : ∀ p ∈ kR w k.x k.tt k.bT k.sl k.fI k.fL k.fG k.fE k.fF k.fH k.st k.t k.tk k.ns k.C k.md k.so k.bm, n ≤ p.1
  fI : n ≤ k.fI
  fL : n ≤ k.fL
  cI : n ≤ k.cI
  cL : n ≤ k.cL
  cell : n ≤ k.cell
theorem KAt.keeps {w : World} {h h' : Heap} {k : KAd} (M : KAt w h k) (e : ∀ b o, h.get? b = some o → h'.get? b = some o) : KAt w h' k :=
  ⟨M.kin.keeps e, fun p hp => e _ _ (M.cls p hp), M.nd, e _ _ M.fI, e _ _ M.fL, M.codeI.keeps e, M.codeL.keeps e, e _ _ M.cell, M.cellD, M.big⟩
/-- a ledger's table -/
noncomputable def fldsOf (o : Obj) : Array Value := match o.data with | .fields vs => vs | _ => #[]
theorem SegT.tab {h₀ h : Heap} {K : Frag} {R : List (Addr × Obj)} (S : SegT h₀ h K R) (hi : Nat.blt 0 R.length = true) (ha : (pxGet R 0).1 = 16) (e : (pxGet R 0).2 = tabObj (fldsOf (pxGet R 0).2)) : ∃ ps, h.get? 16 = some (tabObj ps) :=
  ⟨_, ha ▸ (S.led.at' _ (pxGet_mem (Nat.le_of_ble_eq_true hi))).trans (congrArg some e)⟩
end Mine
end
section
open PySem PySem.W PyProof.Rows PySem.Calls
set_option maxRecDepth 100000
namespace Mine
/-- a run whose ledger is left as it is written -/
theorem segT_val {α : Type} {prog : Program} {w : World} {A : Around} {E : Value → Shared → Prop} {K : Frag} {Q : α → Shared → Prop} {R : List (Addr × Obj)} {h₀ : Heap}
  {h : Heap} {g : Array GenState} {d : Drawn} {tk : Nat} {os : OsState} (S : SegT h₀ h K R) (f : Nat) (hs : List (Option Nat)) {t : Sem α} {b : Nat} (hb : h.objs.size = b) (v : α) (n tk' : Nat)
    (e : px K ⟨prog, w.params⟩ b f hs true [] R 0 tk t = ⟨true, (px K ⟨prog, w.params⟩ b f hs true [] R 0 tk t).asks.map (fun p => (p.1, p.1)), (px K ⟨prog, w.params⟩ b f hs true [] R 0 tk t).led, n, tk', .pure v⟩)
    (q : ∀ h', h'.objs.size = b + n → SegT h₀ h' K (px K ⟨prog, w.params⟩ b f hs true [] R 0 tk t).led → Q v ⟨h', g, d, tk', os⟩) : wpAny (model prog w) A t Q E ⟨h, g, d, tk, os⟩ := by
  refine segT_run S f hs hb (by rw [e]) (by conv => lhs; rw [e]) fun h' H' S' => ?_
  have e1 := congrArg PxR.n e
  have e2 := congrArg PxR.tk e
  have e3 := congrArg PxR.left e
  dsimp only at e1 e2 e3
  rw [e1] at H'
  rw [e2, e3]
  exact wpAny_pure (q h' H' S')
theorem segT_valT {α : Type} {prog : Program} {w : World} {A : Around} {E : Value → Shared → Prop} {K : Frag} {Q : α → Shared → Prop} {R : List (Addr × Obj)} {h₀ : Heap}
  {h : Heap} {g : Array GenState} {d : Drawn} {tk : Nat} {os : OsState} (S : SegT h₀ h K R) (f : Nat) (hs : List (Option Nat)) {t : Sem α} {b : Nat} (hb : h.objs.size = b) (v : α) (n : Nat)
    (e : px K ⟨prog, w.params⟩ b f hs true [] R 0 tk t = ⟨true, (px K ⟨prog, w.params⟩ b f hs true [] R 0 tk t).asks.map (fun p => (p.1, p.1)), (px K ⟨prog, w.params⟩ b f hs true [] R 0 tk t).led, n, (px K ⟨prog, w.params⟩ b f hs true [] R 0 tk t).tk, .pure v⟩)
    (q : ∀ h' tk', h'.objs.size = b + n → SegT h₀ h' K (px K ⟨prog, w.params⟩ b f hs true [] R 0 tk t).led → Q v ⟨h', g, d, tk', os⟩) : wpAny (model prog w) A t Q E ⟨h, g, d, tk, os⟩ :=
  segT_val S f hs hb v n _ e fun h' => q h' _
theorem ns_at {h h' : Heap} {a : Addr} {mm : PySem.Str → Option Value} (N : h.Ns a mm) (k : ∀ o, h.get? a = some o → h'.get? a = some o) : h'.Ns a mm := by
  obtain ⟨o, es, ep, ho, r⟩ := N
  exact ⟨o, es, ep, k _ ho, r⟩
set_option maxHeartbeats 8000000
theorem mk_sp (w : World) {p : Program} {loose : List PySem.Str} (mean mg mb) (dp un : Nat) (fr : Option (List Env)) (gd : Option (List Code)) (s : Shared) (Q : Value → Shared → Prop) (E : Value → Shared → Prop)
   (hA : dp + 5 < recursionLimit) (hu : un + 20 < cLine) (X : (hdT.heap_1 w.params).In s.heap) (XX : (kk w.params).In s.heap) (h16 : s.heap.get? 16 = some { cls := .none, data := .fields #[] })
   (T : Top p loose mean mg mb s.heap) (hret : ∀ (k : KAd) h' tk', (∀ b o, b ≠ 16 → s.heap.get? b = some o → h'.get? b = some o) → s.heap.objs.size ≤ h'.objs.size → GrownAt 16 h' → KAt w h' k → KNew w s.heap.objs.size k → Q (.ref k.C) ⟨h', s.gens, s.drawn, tk', s.os⟩) :
   wpAny (model Challenge.rw_pe0052_01.row.prog w) { handled := none, depth := dp, frames := fr, guards := gd, units := un } (call (.ref 21) [.ref 63]) Q E s := by
  w_on
  revert X hret; k_fill; intro X hret
  k_dflt (refine' enter_defC X T.nolimit ?k6 ?k7 ?k8 ?k9 ?kB ?kD ?_ ?c2 ?c3 ?c4; (case k6 => k_is); (case k7 => k_is); (case k8 => exact Nat.lt_of_le_of_lt (Nat.le_add_right dp 5) hA); (case k9 => exact BindsTo.of_eq rfl); (case kB => exact rfl); (case kD => decide +kernel); (case c2 => exact rfl); (case c3 => exact rfl); (case c4 => exact rfl); k_whole)
  intro L' h₁ tk' cells' F' N' Y'
  obtain ⟨o', hE', d1'⟩ := CellsAre.one Y'
  subst hE'
  refine wpAny_execs_cons ?_
  rw [arm_exec_ClassDef]
  refine wpAny_bind (wpAny_evalAll_nil ?_)
  refine wpAny_bind (wpAny_standAt ?_)
  have T1 := T.keeps F'.keep
  refine wpAny_bind ?_
  unfold buildClassGuard
  refine wpAny_bind (wpAny_nsGet (a := builtinsNs) (s := ⟨h₁, s.gens, s.drawn, tk', s.os⟩) T1.b ?_)
  rw [T1.builtins _ (by decide), show bootBuiltins (Str.ofString "__build_class__") = some (.builtin "__build_class__") from by kernel_rfl!]
  refine wpAny_pure ?_
  refine wpAny_bind (wpAny_holding ?_)
  refine wpAny_bind (evalArgs_plain ?_)
  refine spliced_cons ?_
  refine wp_if_neg (by decide) ?_
  have X1 := X.keeps F'.keep
  have hob : mg (Str.ofString "object") = none := mg_none_of X1 T1.g (by k_is)
  refine Calls.Name_function_global rfl rfl (Calls.loadGlobal_builtin T1.g hob T1.b ((T1.builtins _ (by decide)).trans (by kernel_rfl! : bootBuiltins (Str.ofString "object") = some (.type "object"))) ?_) (by decide)
  refine spliced_nil ?_
  refine wpAny_bind (wpAny_standAt (wpAny_holding ?_))
  have h83 : ∃ m, h₁.objs.size = m + 83 := by
    have q : 82 < h₁.objs.size := Heap.lt_size (F'.keep _ _ (X 82 _ (by k_is)))
    exact ⟨h₁.objs.size - 83, (Nat.sub_add_cancel q).symm⟩
  obtain ⟨m, hm⟩ := h83
  have hm₁ := hm
  have S : SegT h₁ h₁ (kk w.params) [(16, { cls := .none, data := .fields #[] })] := by
    refine ⟨⟨rfl, fun p hp => ?_, by simp⟩, fun b o _ e => e, fun p hp => ?_, XX.keeps F'.keep, by kernel_rfl!, Nat.le_refl _⟩
    · rw [List.mem_singleton.mp hp]; exact F'.keep _ _ h16
    · rw [List.mem_singleton.mp hp]; exact .inr rfl
  rw [buildClass]
  refine wpAny_bind (segT_px S 40 [] hm (.ref (m + 83)) [] [(16, { cls := .none, data := .fields #[] }), (m + 83, tupO [.type "object"])] 1 tk' (by kernel_rfl!) rfl (fun h₂ hm S => ?_))
  refine wpAny_bind (segT_pk S 40 [] ([.type "object"], false) [] (by kernel_rfl!) rfl ?_)
  dsimp only
  refine wpAny_bind (segT_pk S 40 [] (.type "type") [] (by kernel_rfl!) rfl ?_)
  refine wpAny_bind (segT_pk S 40 [] true [] (by kernel_rfl!) rfl ?_)
  refine wp_if_pos rfl ?_
  refine wpAny_bind (segT_pk S 40 [] (.type "type") [] (by kernel_rfl!) rfl ?_)
  refine wpAny_bind (wpAny_mkText ?_)
  refine wp_if_neg (nt rfl) ?_
  refine wpAny_bind (wpAny_pure ?_)
  refine wpAny_holding ?_
  refine wpAny_bind (prep_attr S hm (fun h₃ hm S => ?_))
  dsimp only
  refine wpAny_bind (prep_call _ _ S (S.led.at' (m + 83 + 1, prepO) (by simp)) hm (fun h₄ hm S => ?_))
  dsimp only
  refine wpAny_bind (segT_pk S 40 [] () [] (by kernel_rfl!) rfl ?_)
  refine wpAny_bind (segT_pk S 40 [some 3] (some (.builtin "dict.__getitem__")) [(m + 83 + 1 + 1, m + 83 + 1 + 1)] (by kernel_rfl!) rfl ?_)
  refine wp_if_neg (nt rfl) ?_
  refine wpAny_holding ?_
  refine wp_if_neg (nt (by kernel_rfl!)) ?_
  refine wpAny_bind (wpAny_pure ?_)
  refine wp_if_neg (nt (by kernel_rfl!)) ?_
  refine wpAny_bind (wpAny_pure ?_)
  refine wpAny_bind (segT_val S 200 [none, some 0, some 0, some 0, some 0] hm (.ref (m + 83 + 1 + 1 + 1 + 2)) 3 (tk' + 1 + 1 + 1 + 1 + 1 + 1 + 1 + 1) (by kernel_rfl!) (fun h₅ hm S => ?_))
  refine wpAny_bind (segT_pk S 200 [none, none] 0 [] (by kernel_rfl!) rfl ?_)
  refine wpAny_bind (segT_val S 200 [none] hm (m + 83 + 1 + 1 + 1 + 3) 1 (tk' + 1 + 1 + 1 + 1 + 1 + 1 + 1 + 1) (by kernel_rfl!) (fun h₆ hm S => ?_))
  refine wpAny_bind (segT_pk S 200 [] [(Str.ofString "mycmp", L' + 1)] [] (by kernel_rfl!) rfl ?_)
  refine wpAny_holding ?_
  have NL : h₆.NoLimit := T1.nolimit.at fun o e => S.stays _ _ (by decide) e
  refine wpAny_bind (wpAny_enterFrame (s := ⟨h₆, s.gens, s.drawn, _, s.os⟩) NL (Nat.lt_of_le_of_lt (by show dp + 1 ≤ dp + 5; omega) hA) ?_)
  refine wpAny_bind (segT_val S 400 [some 3, some 3, none, some 3, some 3, some 3, some 3, some 3, some 3, some 3, some 3, some 3] hm () 0 (tk' + 1 + 1 + 1 + 1 + 1 + 1 + 1 + 1 + 1 + 1 + 1 + 1 + 1) (by kernel_rfl!) (fun h₇ hm S => ?_))
  refine wpAny_bind (wpAny_run (codeAny_body rfl rfl ?_))
  refine segT_valT S 4000 [some 3, some 3, some 3, some 3, some 3, some 3, some 6, some 5, some 5, some 5, some 5, none, none, none, some 3, some 3, some 3, some 6, some 5, some 5, some 5, some 5, none, none, none, some 3, some 3, some 3, some 6, some 5, some 5, some 5, some 5, none, none, none, some 3, some 3, some 3, some 6, some 5, some 5, some 5, some 5, none, none, none, some 3, some 3, some 3, some 6, some 5, some 5, some 5, some 5, none, none, none, some 3, some 3, some 3, some 6, some 5, some 5, some 5, some 5, none, none, none, some 3, some 3, some 3, some 3, some 3, some 3] hm .next 48 (by kernel_rfl!) (fun h₈ tk₈ hm S => ?_)
  dsimp only
  refine wpAny_bind (segT_valT S 400 [some 3, some 3, some 3] hm () 1 (by kernel_rfl!) (fun h₉ tk₉ hm S => ?_))
  refine wp_if_neg (nt rfl) ?_
  obtain ⟨ps₉, h16₉⟩ := S.tab (by kernel_rfl!) (by kernel_rfl!) (by kernel_rfl!)
  obtain ⟨x, tt, tl, ep, dI, dL, dG, dE, dF, dH, sv, S2, eI, eL⟩ := S.segK (m := m) X1 (by kernel_rfl!) (by kernel_rfl!) (by kernel_rfl!) (by kernel_rfl!)
  obtain ⟨pI, eI⟩ := func_of (fun pm => .func (mFd w.params 2 (Str.ofString "__init__") [] .none (.ref (m + 83 + 13)) pm)) eI (by kernel_rfl!)
  obtain ⟨pL, eL⟩ := func_of (fun pm => .func (mFd w.params 3 (Str.ofString "__lt__") [(Str.ofString "mycmp", L' + 1)] (.ref (m + 83 + 15)) (.ref (m + 83 + 21)) pm)) eL (by kernel_rfl!)
  obtain ⟨oI, gI, nI⟩ := S.code 14 (a := m + 83 + 13) (q := Str.ofString "cmp_to_key.<locals>.K." ++ Str.ofString "__init__") (by kernel_rfl!) (by kernel_rfl!) (by kernel_rfl!)
  obtain ⟨oL, gL, nL⟩ := S.code 22 (a := m + 83 + 21) (q := Str.ofString "cmp_to_key.<locals>.K." ++ Str.ofString "__lt__") (by kernel_rfl!) (by kernel_rfl!) (by kernel_rfl!)
  refine wpAny_bind (type_call w _ h₉ s.gens s.drawn tk₉ s.os x tt _ _ _ _ _ _ _ _ _ _ _ tl ep dI dL dG dE dF dH sv _ _ S2 (Nat.le_trans (Nat.le_add_left 83 m) (Nat.le_add_right _ 2)) (fun ns C md so bm h₁₀ S3 => ?_))
  refine wpAny_pure ?_
  refine wpAny_bind (wpAny_pure ?_)
  refine wpAny_bind (wpAny_standAt ?_)
  have hL16 : L' ≠ 16 := by
    have q1 : 82 < s.heap.objs.size := Heap.lt_size (X 82 _ (by k_is))
    have q2 := F'.above
    intro q
    rw [q] at q2
    exact absurd (Nat.lt_of_lt_of_le q1 q2) (by decide)
  have hC16 : L' + 1 ≠ 16 := by
    have q1 : 82 < s.heap.objs.size := Heap.lt_size (X 82 _ (by k_is))
    have q2 := Nat.lt_of_lt_of_le q1 F'.above
    intro q
    have q3 := Nat.lt_succ_of_lt q2
    rw [show Nat.succ L' = 16 from q] at q3
    exact absurd q3 (by decide)
  have Ns10 := ns_at F'.ns (h' := h₁₀) fun o ho => S3.stays _ _ (S.stays _ _ hL16 ho)
  refine wpAny_bind (wpAny_bindName (wpAny_storeName_local (s := ⟨h₁₀, s.gens, s.drawn, _, s.os⟩) rfl Ns10 (fun h₁₁ N11 B11 => ?_)))
  refine wpAny_pure ?_
  dsimp only
  refine wpAny_execs_cons ?_
  rw [arm_exec_Return]
  refine wpAny_bind (wpAny_standAt ?_)
  refine wpAny_bind ?_
  rw [arm_eval_Name]
  refine wpAny_bind (wpAny_standAt ?_)
  refine wp_if_neg (by decide) ?_
  refine wpAny_loadName_local (s := ⟨h₁₁, s.gens, s.drawn, _, s.os⟩) rfl rfl N11 (if_pos rfl) ?_
  refine wpAny_pure ?_
  have lo : ∀ a o, h₁₀.get? a = some o → a ≠ L' → h₁₁.get? a = some o := fun a o e ne => (B11.2 a ne).trans e
  have hLm : L' < m + 83 := by
    obtain ⟨o, es, ep, ho, r⟩ := F'.ns
    exact hm₁ ▸ Heap.lt_size ho
  have ne : ∀ j, m + 83 + j ≠ L' := fun j q => Nat.not_lt.mpr (q ▸ Nat.le_add_right (m + 83) j) hLm
  have nC := N' (L' + 1, o') (by simp)
  have le83 : s.heap.objs.size ≤ m + 83 := Nat.le_trans F'.above (Nat.le_of_lt hLm)
  refine hret ⟨x, tt, m + 83, m + 83 + 7, m + 83 + 14, m + 83 + 22, m + 83 + 30, m + 83 + 38, m + 83 + 46, m + 83 + 54, m + 83 + 55, tk', tk₉, ns, C, md, so, bm, L' + 1, m + 83 + 15, m + 83 + 13, m + 83 + 21, pI, pL, o'⟩ h₁₁ _ ?a ?z ?t ⟨?k, ?b, ?nd, ?c, ?d, ?e, ?f, ?g, ?h, ?big⟩ ⟨?n1, ?n2, ?n3, ?n4, ?n5, ?n6⟩
  case n1 =>
    intro p hp
    have z := S3.new p hp
    exact Nat.le_trans le83 (Nat.le_trans (hm₁ ▸ S.sz) z)
  case n2 => exact Nat.le_trans le83 (Nat.le_add_right _ _)
  case n3 => exact Nat.le_trans le83 (Nat.le_add_right _ _)
  case n4 => exact Nat.le_trans le83 (Nat.le_add_right _ _)
  case n5 => exact Nat.le_trans le83 (Nat.le_add_right _ _)
  case n6 => exact Nat.le_succ_of_le F'.above
  case a =>
    intro b o nb e
    have e1 := F'.keep _ _ e
    refine lo b o (S3.stays _ _ (S.stays _ _ nb e1)) fun q => ?_
    exact Nat.not_lt.mpr F'.above (q ▸ Heap.lt_size e)
  case z => exact Nat.le_trans (Nat.le_of_lt (Nat.lt_of_le_of_lt F'.above hLm)) (Nat.le_trans (hm₁ ▸ S.sz) (Nat.le_trans S3.sz (Nat.le_of_eq B11.1.symm)))
  case t => exact ⟨ps₉, lo _ _ (S3.stays _ _ h16₉) hL16.symm⟩
  case nd =>
    have q := S3.led.nd
    rw [List.map_append, List.nodup_append] at q
    exact q.2.1
  case big =>
    have z := S3.new _ (.tail _ (.head _))
    exact Nat.le_trans (Nat.le_trans (Nat.le_add_left 83 m) (hm₁ ▸ S.sz)) z
  case k =>
    intro b o e
    have nb : b ≠ 16 := fun q => by rw [q, S.ke] at e; cases e
    refine lo b o (S3.stays _ _ (S.K b o e)) fun q => ?_
    exact Nat.not_lt.mpr F'.above (q ▸ Heap.lt_size (XX b o e))
  case b =>
    intro p hp
    refine lo _ _ (S3.nw hp) fun q => ?_
    have z := S3.new p hp
    rw [q] at z
    exact Nat.not_lt.mpr (Nat.le_trans S.sz z) (hm₁ ▸ hLm)
  case c => rw [← eI]; exact lo _ _ (S3.old (p := (m + 83 + 14, fnO dI)) (by simp)) (ne 14)
  case d => rw [← eL]; exact lo _ _ (S3.old (p := (m + 83 + 22, fnO dL)) (by simp)) (ne 22)
  case e => exact codeRec_at (lo _ _ (S3.stays _ _ gI) (ne 13)) nI
  case f => exact codeRec_at (lo _ _ (S3.stays _ _ gL) (ne 21)) nL
  case g => exact lo _ _ (S3.stays _ _ (S.stays _ _ hC16 nC.1)) nC.2.1
  case h => exact d1'
end Mine
end
section
open PySem PySem.W PyProof.Rows PySem.Calls
set_option maxRecDepth 100000
set_option maxHeartbeats 8000000
namespace Mine
noncomputable def cmpV (one two : PySem.Str) : Int := if one.length ≠ two.length then (one.length : Int) - two.length else if one.cps.toList < two.cps.toList then -1 else if two.cps.toList < one.cps.toList then 1 else 0
section
local macro_rules | `(tactic| walk_at "call builtin:len") => `(tactic| (k_here; (with_reducible show wpAny _ _ (call (Value.builtin "len") [Value.str _ _]) _ _ _); (refine len_str (by omega) ?_)))
theorem cmp_sp (w : World) {p : Program} {loose : List PySem.Str} (mean mg mb) (dp un : Nat) (fr : Option (List Env)) (gd : Option (List Code)) (s : Shared) (one two : PySem.Str) (t1 t2 : Tok) (Q : Value → Shared → Prop) (E : Value → Shared → Prop)
   (hA : dp + 5 < recursionLimit) (hu : un + 20 < cLine) (X : (hdT.heap_1 w.params).In s.heap) (l1 : one.length < 1000) (l2 : two.length < 1000)
   (T : Top p loose mean mg mb s.heap) (hret : ∀ h' tk' t, s.heap.StaysIn h' → s.heap.objs.size ≤ h'.objs.size → Q (.int (cmpV one two) t) ⟨h', s.gens, s.drawn, tk', s.os⟩) :
   wpAny (model Challenge.rw_pe0052_01.row.prog w) { handled := none, depth := dp, frames := fr, guards := gd, units := un } (call (.ref 63) [.str one t1, .str two t2]) Q E s := by
  w_on
  revert X hret; k_fill; intro X hret
  k_dflt (refine' enter_def X T.nolimit ?k6 ?k7 ?k8 ?k9 ?kB ?_ ?c1 ?c2 ?c3 ?c4; (case k6 => k_is); (case k7 => k_is); (case k8 => exact Nat.lt_of_le_of_lt (Nat.le_add_right dp 5) hA); (case k9 => exact BindsTo.of_eq rfl); (case kB => exact rfl); (case c1 => decide); (case c2 => exact rfl); (case c3 => exact rfl); (case c4 => exact rfl); k_whole)
  intro L' h₁ F' N'
  k_steps
  all_goals (have key : ∀ z t h' tk', z = cmpV one two → s.heap.StaysIn h' → s.heap.objs.size ≤ h'.objs.size → Q (.int z t) ⟨h', s.gens, s.drawn, tk', s.os⟩ := fun z t h' tk' e a b => e ▸ hret h' tk' t a b)
  · refine key _ _ _ _ ?_ F'.keep (fr_size F')
    rename_i e
    have e' : one.length ≠ two.length := fun q => by simp [q] at e
    unfold cmpV; rw [if_pos e']
  · refine key _ _ _ _ ?_ F'.keep (fr_size F')
    rename_i e e2
    have e' : ¬ one.length ≠ two.length := fun q => q (by omega)
    unfold cmpV; rw [if_neg e', if_pos (of_decide_eq_true (by simpa using e2))]
  · refine key _ _ _ _ ?_ F'.keep (fr_size F')
    rename_i e e2
    have e' : ¬ one.length ≠ two.length := fun q => q (by omega)
    unfold cmpV; have e3 : ¬ one.cps.toList < two.cps.toList := fun q => by simp_all
    rw [if_neg e', if_neg e3]
    by_cases h : two.cps.toList < one.cps.toList
    · rw [if_pos h, if_pos (decide_eq_true h)]
    · rw [if_neg h, if_neg (by rw [decide_eq_false h]; decide)]
end
end Mine
end
section
open PySem PySem.W PyProof.Rows PySem.Calls
namespace Mine
/-- a row of four -/
noncomputable abbrev R4 := Int × Int × Int × Int
noncomputable def st (r : R4) (c : Nat) : R4 := if c = 97 then (r.2.1, r.1, r.2.2) else if c = 98 then (r.1, r.2.2.1, r.2.1, r.2.2.2) else (r.1, r.2.1, r.2.2.2, r.2.2.1)
noncomputable def Ltr (l : List Nat) : Prop := ∀ c ∈ l, c = 97 ∨ c = 98 ∨ c = 99
theorem fold_next {l : List Nat} {i c : Nat} {z : R4} (h : l[i]? = some c) : (l.take (i + 1)).foldl st z = st ((l.take i).foldl st z) c := by
  rw [List.take_add_one, h]; simp
/-- a list of four ints -/
noncomputable def IsRow (o : Obj) (q : R4) : Prop := ∃ ta tb tc td n, o = W.listOf #[.int q.1 ta, .int q.2.1 tb, .int q.2.2.1 tc, .int q.2.2.2 td] n
/-- a list of four ints stands at r -/
noncomputable def RowAt (h : Heap) (r : Addr) (q : R4) : Prop := ∃ o, h.get? r = some o ∧ IsRow o q
theorem RowAt.keeps {h h' : Heap} {r : Addr} {q : R4} (k : h.StaysIn h') : RowAt h r q → RowAt h' r q := fun ⟨o, e, x⟩ => ⟨o, k _ _ e, x⟩
theorem map_at2 {m : PySem.Str → Option Value} (x y : PySem.Str) {u v : Value} (hx : m x = some v) (hy : m y = some u) : m = fun z => if z = x then some v else if z = y then some u else m z := funext fun z => by
  by_cases e : z = x
  · rw [if_pos e, e, hx]
  · rw [if_neg e]
    by_cases e2 : z = y
    · rw [if_pos e2, e2, hy]
    · rw [if_neg e2]
/-- a fresh object goes onto the ledger -/
theorem news_fresh {h₀ h h' : Heap} {L : Addr} {m : PySem.Str → Option Value} {news : List (Addr × Obj)} (F : Fr h₀ L h m) (N : News h₀ L h news) (k : h.StaysIn h') {l : Addr} {o : Obj} (e : h'.get? l = some o) (hf : h.get? l = none) : News h₀ L h' ((l, o) :: news) := fun p hp => by
  rcases List.mem_cons.mp hp with rfl | hp
  · refine ⟨e, fun q => ?_, ?_⟩
    · obtain ⟨oL, es, ep, hL, r⟩ := F.ns
      rw [show l = L from q, hL] at hf
      cases hf
    · cases q : h₀.get? l with
      | none => rfl
      | some o' => rw [F.keep _ _ q] at hf; cases hf
  · exact ⟨k _ _ (N p hp).1, (N p hp).2⟩
section
variable {prog : Program} {w : World} {A : Around} {E : Value → Shared → Prop} {s : Shared}
theorem ord_lit {c : Nat} (k : Int) (hk : (c : Int) = k) {t : Tok} {Q : Value → Shared → Prop} (h : Q (.int k s.toks) { s with toks := s.toks + 1 }) : wpAny (model prog w) A (call (.builtin "ord") [.str ⟨#[c]⟩ t]) Q E s := by
  subst hk; exact P.ord_of_char h
theorem sub_lit {a b : Int} (k : Int) (hk : a - b = k) {t u : Tok} {Q : Value → Shared → Prop} (h : Q (.int k s.toks) { s with toks := s.toks + 1 }) : wpAny (model prog w) A (binaryOp .Sub (.int a t) (.int b u)) Q E s := by
  subst hk; exact sub_int' h
theorem add_lit {a b : Int} (k : Int) (hk : a + b = k) {t u : Tok} {Q : Value → Shared → Prop} (h : Q (.int k s.toks) { s with toks := s.toks + 1 }) : wpAny (model prog w) A (binaryOp .Add (.int a t) (.int b u)) Q E s := by
  subst hk; exact P.add_int h
end
theorem map_at {m : PySem.Str → Option Value} {x : PySem.Str} {v : Value} (h : m x = some v) : m = fun y => if y = x then some v else m y := funext fun y => by
  by_cases e : y = x
  · rw [if_pos e, e, h]
  · rw [if_neg e]
end Mine
end
section
open PySem PySem.W PyProof.Rows PySem.Calls
namespace Mine
section
variable {prog : Program} {w : World} {A : Around} {E : Value → Shared → Prop} {s : Shared} {env : Env} {h₀ : Heap} {x : PySem.Str} {body : List Stmt} {Q : Flow → Shared → Prop}
/-- a loop over a text, by an invariant -/
theorem iter_strN {wd : PySem.Str} {t : Tok} {m₀ : PySem.Str → Option Value} {news : List (Addr × Obj)} (J : Nat → (PySem.Str → Option Value) → List (Addr × Obj) → Prop)
    (hh : A.handled = none) (F : Fr h₀ env.locals s.heap m₀) (N : News h₀ env.locals s.heap news) (hj : J 0 m₀ news)
    (turn : ∀ i c u m₁ news₁ h tk own, wd.cps[i]? = some c → news₁.map (·.1) = news.map (·.1) → OwnOff own (news.map (·.1)) → J i m₁ news₁ → Fr h₀ env.locals h (fun y => if y = x then some (.str ⟨#[c]⟩ u) else m₁ y) → News h₀ env.locals h (news₁ ++ own) →
      wpAny (model prog w) A (execs body env) (InvPostN h₀ env.locals (J (i + 1)) own (news.map (·.1)) { s with heap := h, toks := tk } Q) E { s with heap := h, toks := tk })
    (done : ∀ m₁ news₁ h tk, J wd.cps.size m₁ news₁ → Fr h₀ env.locals h m₁ → News h₀ env.locals h news₁ → Q .next { s with heap := h, toks := tk }) :
    wpAny (model prog w) A (pyIter (.str wd t)) (fun it s₂ => LoopAtV prog w A h₀ env x body Q E it s₂) E s := by
  refine wpAny_pyIter_str fun o St W hst => ?_
  refine loop_invN J (W A hh) ?_ ?_ ?_ ?_ hst (F.keeps fun _ _ e => Heap.get?_push_of_some _ e) (N.grown fun _ _ e => Heap.get?_push_of_some _ e) hj ?_ ?_
  · intro hm
    exact absurd F.ns.lt ((List.mem_singleton.mp hm) ▸ Nat.lt_irrefl _)
  · intro b hb
    rw [List.mem_singleton.mp hb]
    exact next_is_new F
  · intro p hp hI
    exact absurd (Heap.lt_size (N p hp).1) ((List.mem_singleton.mp hI) ▸ Nat.lt_irrefl _)
  · intro p hp hI
    exact absurd (Heap.lt_size (N p hp).1) ((List.mem_singleton.mp hI) ▸ Nat.lt_irrefl _)
  · rintro i v m₁ news₁ h tk own hin ⟨c, u, hc, rfl⟩ ha ho hJ F₁ N₁
    exact turn i c u m₁ news₁ h tk own hc ha ho hJ F₁ N₁
  · intro m₁ news₁ h tk hJ F₁ N₁
    exact done m₁ news₁ h tk hJ F₁ N₁
/-- a loop over a range, by an invariant -/
theorem iter_rangeN {r : Addr} {b₀ : Int} {t₀ u₀ v₀ : Tok} {n : Nat} {m₀ : PySem.Str → Option Value} {news : List (Addr × Obj)} (J : Nat → (PySem.Str → Option Value) → List (Addr × Obj) → Prop)
    (hh : A.handled = none) (hr : IsRange s.heap r 0 b₀ 1 t₀ u₀ v₀) (hsm : Builtin.Range.small 0 b₀ 1 = true) (hn : Builtin.Range.rangeSize 0 b₀ 1 = ((n : Nat) : Int)) (F : Fr h₀ env.locals s.heap m₀) (N : News h₀ env.locals s.heap news) (hj : J 0 m₀ news)
    (turn : ∀ (i : Nat) u m₁ news₁ h tk own, i < n → news₁.map (·.1) = news.map (·.1) → OwnOff own (news.map (·.1)) → J i m₁ news₁ → Fr h₀ env.locals h (fun y => if y = x then some (.int (i : Int) u) else m₁ y) → News h₀ env.locals h (news₁ ++ own) →
      wpAny (model prog w) A (execs body env) (InvPostN h₀ env.locals (J (i + 1)) own (news.map (·.1)) { s with heap := h, toks := tk } Q) E { s with heap := h, toks := tk })
    (done : ∀ m₁ news₁ h tk, J n m₁ news₁ → Fr h₀ env.locals h m₁ → News h₀ env.locals h news₁ → Q .next { s with heap := h, toks := tk }) :
    wpAny (model prog w) A (pyIter (.ref r)) (fun it s₂ => LoopAtV prog w A h₀ env x body Q E it s₂) E s := by
  refine wpAny_pyIter_range hr hsm ?_
  refine loop_invN J (LCg.range_walks hh 0 n) ?_ ?_ ?_ ?_ (by show IsRangeIter _ _ _ _ _; rw [hn]; simpa using Heap.get?_push_size _ rfl) (F.keeps fun _ _ e => Heap.get?_push_of_some _ e) (N.grown fun _ _ e => Heap.get?_push_of_some _ e) hj ?_ ?_
  · intro hm
    exact absurd F.ns.lt ((List.mem_singleton.mp hm) ▸ Nat.lt_irrefl _)
  · intro b hb
    rw [List.mem_singleton.mp hb]
    exact next_is_new F
  · intro p hp hI
    exact absurd (Heap.lt_size (N p hp).1) ((List.mem_singleton.mp hI) ▸ Nat.lt_irrefl _)
  · intro p hp hI
    exact absurd (Heap.lt_size (N p hp).1) ((List.mem_singleton.mp hI) ▸ Nat.lt_irrefl _)
  · rintro i v m₁ news₁ h tk own hin ⟨u, rfl⟩ ha ho hJ F₁ N₁
    rw [Int.zero_add] at F₁
    exact turn i u m₁ news₁ h tk own hin ha ho hJ F₁ N₁
  · intro m₁ news₁ h tk hJ F₁ N₁
    exact done m₁ news₁ h tk hJ F₁ N₁
theorem iter_args (a : Value) : argsOk "iter" ⟨[a], []⟩ := by unfold argsOk; kernel_rfl!
/-- iter of a text -/
theorem iter_call {x : PySem.Str} {t : Tok} {Q : Value → Shared → Prop}
    (hQ : ∀ (o : Obj) (St : Nat → Heap → Prop), o.isFreed = false → (∀ A' : Around, A'.handled = none → Walks prog w A' s.heap.objs.size [s.heap.objs.size] [s.heap.objs.size] x.cps.size (SignAt x) St) → (∀ i h, St i h → ∀ b ∈ [s.heap.objs.size], ∃ o, h.get? b = some o) → St 0 (s.heap.push o) →
      Q (.ref s.heap.objs.size) { s with heap := s.heap.push o }) : wpAny (model prog w) A (call (.builtin "iter") [.str x t]) Q E s := by
  refine call_function_entry (by decide +kernel) (by decide +kernel) kdk_entry_iter (iter_args _) ?_
  unfold Builtin.«iter»
  refine wpAny_bind (m := someArgs "iter" 1 2 _) (wpAny_of_eq (a := [Value.str x t]) (by first | rfl | kernel_rfl!) ?_)
  show wpAny _ _ (pyIter (.str x t) >>= _) _ _ _
  refine wpAny_bind ?_
  cases ha : x.cps.all (· < 128)
  · exact wpAny_pyIter_wide ha (wpAny_pure ⟨_, rfl, hQ _ _ rfl (fun A' hA => Walks.strWide hA _ x t) (fun i h ⟨o, e, _⟩ b hb => ⟨o, List.mem_singleton.mp hb ▸ e⟩) ⟨_, Heap.get?_push_size _ rfl, rfl, rfl⟩⟩)
  · exact wpAny_pyIter_ascii ha (wpAny_pure ⟨_, rfl, hQ _ _ rfl (fun A' hA => Walks.strAscii hA _ x t) (fun i h ⟨o, e, _⟩ b hb => ⟨o, List.mem_singleton.mp hb ▸ e⟩) ⟨_, Heap.get?_push_size _ rfl, rfl, rfl⟩⟩)
/-- a loop whose ledger may turn -/
theorem loop_invF {I : Addr} {fp wr : List Addr} {n : Nat} {P : Nat → Value → Prop} {St : Nat → Heap → Prop} {m₀ : PySem.Str → Option Value} {news : List (Addr × Obj)} (J : Nat → (PySem.Str → Option Value) → List (Addr × Obj) → Prop)
    (W : Walks prog w A I fp wr n P St) (hIo : ∀ i h, St i h → ∀ b ∈ wr, ∃ o, h.get? b = some o) (hLf : env.locals ∉ fp) (hwr : ∀ b ∈ wr, h₀.get? b = none) (hnw : ∀ p ∈ news, p.1 ∉ wr) (hst : St 0 s.heap) (F : Fr h₀ env.locals s.heap m₀) (N : News h₀ env.locals s.heap news) (hj : J 0 m₀ news)
    (turn : ∀ i v m₁ news₁ h tk own, i < n → P i v → J i m₁ news₁ → (∀ b ∈ wr, ∃ o, h.get? b = some o) → Fr h₀ env.locals h (fun y => if y = x then some v else m₁ y) → News h₀ env.locals h (own ++ news₁) → (∀ p ∈ news₁, p.1 ∉ wr) →
      wpAny (model prog w) A (execs body env) (fun f s₂ => f = .next ∧ ∃ h' tk' m' news', s₂ = { s with heap := h', toks := tk' } ∧ Fr h₀ env.locals h' m' ∧ News h₀ env.locals h' (own ++ news') ∧ (∀ p ∈ news', p.1 ∉ wr) ∧ J (i + 1) m' news') E { s with heap := h, toks := tk })
    (done : ∀ m₁ news₁ h tk, J n m₁ news₁ → Fr h₀ env.locals h m₁ → News h₀ env.locals h news₁ → Q .next { s with heap := h, toks := tk }) :
    LoopAtV prog w A h₀ env x body Q E (.ref I) s := by
  refine ⟨I, fp, wr, n, P, St, m₀, news, J, rfl, W, hLf, hwr, hnw, hst, F, N, hj, ?_, ?_⟩
  · rintro i v m₁ news₁ s₁ own ⟨hh', tk', rfl⟩ hin hP hJ hnw₁ hown _ _ st₁ F₁ N₁
    refine wpAny_mono (turn i v m₁ news₁ hh' tk' own hin hP hJ (hIo _ _ st₁) F₁ N₁ hnw₁) (fun f s₂ p => ?_) fun _ _ e => e
    obtain ⟨rfl, h', tk, m', news', rfl, F', N', hn, hJ'⟩ := p
    exact .next ⟨rfl, h', tk, m', news', rfl, F', N', hn, hJ'⟩
  · intro h' tk m' news' F' N' _ hJ
    exact done m' news' h' tk hJ F' N'
end
theorem wp_peek1 {α : Type} {K : Frag} {prog : Program} {w : World} {A : Around} {E : Value → Shared → Prop} {Q : α → Shared → Prop} {s : Shared} {o : Obj} {r : Addr → α}
    (X : K.In s.heap) (hf : o.isFreed = false) (q : Q (r s.heap.objs.size) { s with heap := s.heap.push o }) :
    ∀ (t : Sem α) (g : Addr → Option α), peek1 K ⟨prog, w.params⟩ t = some (o, g) → (∀ D, g D = some (r D)) → wpAny (model prog w) A t Q E s := by
  intro t
  induction t with
  | rule _ k ih => intro g e hg; exact PySem.W.X.x_rule (ih () g e hg)
  | point _ k ih => intro g e hg; exact PySem.W.X.x_point (ih () g e hg)
  | ask k ih => intro g e hg; exact PySem.W.X.x_ask (ih _ g e hg)
  | load a q' k ih =>
    intro g e hg
    simp only [peek1] at e
    split at e
    · rename_i ob ho; exact PySem.W.X.x_load (X _ _ ho) (ih ob g e hg)
    · cases e
  | alloc ob k _ =>
    intro g e hg
    have e : some (ob, fun D => peek K ⟨prog, w.params⟩ (k D)) = some (o, g) := e
    obtain ⟨e1, e2⟩ := Prod.mk.inj (Option.some.inj e)
    subst e1
    subst e2
    refine wpAny_bind (m := alloc ob) (f := k) (wpAny_alloc ?_)
    exact (Looks.of_peek (M := model prog w) (X.keeps fun b o e => Heap.get?_push_of_some _ e) (hg _)).here q
  | _ => intro g e hg; cases e
section
variable {prog : Program} {w : World} {A : Around} {E : Value → Shared → Prop} {s : Shared} {K : Frag} {Q : Value → Shared → Prop}
/-- entry of a def that takes a star argument: the tuple goes onto the ledger -/
theorem enter_defV {name qual : PySem.Str} {params : Arguments} {body : List Stmt} {scope : Scope} {dV kV doc pm cdv ct oc : Value} {an od : Option Addr} {osl : Array (Option Value)} {f : Addr} {pos : List Value} {tup : Obj} {binds : Addr → List (PySem.Str × Value)}
    (X : K.In s.heap) (hlim : s.heap.NoLimit)
    (ho : K.lookup f = some ⟨oc, od, .func (fnOf name qual params body scope dV kV doc pm an cdv ct), osl⟩) (hcd : codeIn K cdv qual = true) (hroom : A.depth < recursionLimit)
    (hf : tup.isFreed = false)
    (hbind : peek1 K ⟨prog, w.params⟩ (bindArgs (fnOf name qual params body scope dV kV doc pm an cdv ct) ⟨pos, []⟩) = some (tup, fun D => some (binds D)))
    (hkind : ∀ D, ((binds D).all fun y => scope.names.lookup y.1 == some .local) = true) (hcell : ∀ x ∈ scope.names, x.2 ≠ .cell)
    (h : ∀ T L' h₁ tk, Fr s.heap L' h₁ (fun y => (binds T).reverse.lookup y) → News s.heap L' h₁ [(T, tup)] →
      wpAny (model prog w) (A.deeper (envOf qual scope L' f cdv)) (execs body (envOf qual scope L' f cdv))
        (fun fl s' => Q (match fl with | .ret v => v | _ => .none) s') (fun _ _ => False)
        { s with heap := h₁, toks := tk })
    (hco : scope.isCoroutine = false) (hgen : scope.isGenerator = false) (hk : scope.kind = .function) :
    wpAny (model prog w) A (call (.ref f) pos) Q E s := by
  have hloc : ∀ D, ∀ y ∈ binds D, scope.names.lookup y.1 = some .local := fun D y hy => beq_iff_eq.mp (List.all_eq_true.mp (hkind D) y hy)
  refine wpAny_call ?_
  refine codeAny_call_function hroom (X _ _ ho) rfl hco hgen rfl (codeRec_of X hcd) ?_
  refine wp_peek1 X hf (r := binds) ?_ _ _ hbind (fun _ => rfl)
  have N0 : ∀ b o, s.heap.get? b = some o → (s.heap.push tup).get? b = some o := fun b o e => Heap.get?_push_of_some _ e
  have hT : (s.heap.push tup).get? s.heap.objs.size = some tup := Heap.get?_push_size _ hf
  refine wpAny_newFunctionEnv hcell (hloc _) (fun h₂ hns hsb => ⟨(hlim.keeps N0).fresh _ hsb, codeAny_func ?_⟩) hk
  have k2 : ∀ b o, (s.heap.push tup).get? b = some o → h₂.get? b = some o := fun b o e => hsb.extBut b o (Nat.ne_of_lt (Heap.lt_size e)) (Heap.get?_push_of_some _ e)
  have hz : (s.heap.push tup).objs.size = s.heap.objs.size + 1 := Heap.size_push ..
  refine wpAny_mono (h s.heap.objs.size _ h₂ _ ⟨hns, fun b o e => k2 _ _ (N0 _ _ e), by rw [show ({ s with heap := s.heap.push tup } : Shared).heap = s.heap.push tup from rfl, hz]; exact Nat.le_succ _⟩ (fun p hp => ?_)) (fun fl s' hq => hq) fun _ _ y => y.elim
  rw [List.mem_singleton.mp hp]
  refine ⟨k2 _ _ hT, Nat.ne_of_lt (by show s.heap.objs.size < (s.heap.push tup).objs.size; rw [hz]; exact Nat.lt_succ_self _), ?_⟩
  cases q : s.heap.get? s.heap.objs.size with
  | none => rfl
  | some o' => exact absurd (Heap.lt_size q) (Nat.lt_irrefl _)
end
end Mine
end
section
open PySem PySem.W PyProof.Rows PySem.Calls
set_option maxRecDepth 100000
set_option maxHeartbeats 8000000
namespace Mine
section
variable {prog : Program} {w : World} {A : Around} {E : Value → Shared → Prop} {s : Shared}
theorem idx_abc (hA : A.handled = none) {y : PySem.Str} {t u : Tok} {Q : Value → Shared → Prop} (k : Int) (hf : Txt.find (Str.ofString "abc") y = k) (h0 : 0 ≤ k)
    (h : Q (.int k s.toks) { s with toks := s.toks + 1 }) : wpAny (model prog w) A (call (.builtin "str.index") [.str (Str.ofString "abc") t, .str y u]) Q E s :=
  index_or hA (fun e => absurd e (by rw [hf]; omega)) fun _ _ => by rw [hf]; exact h
end
local macro_rules | `(tactic| walk_at "call builtin:str.index") => `(tactic| first | (refine idx_abc (y := Str.ofString "a") rfl 0 (by decide +kernel) (by decide) ?_) | (refine idx_abc (y := Str.ofString "b") rfl 1 (by decide +kernel) (by decide) ?_) | (refine idx_abc (y := Str.ofString "c") rfl 2 (by decide +kernel) (by decide) ?_))
theorem chg_a (w : World) {p : Program} {loose : List PySem.Str} (mean mg mb) (dp un : Nat) (fr : Option (List Env)) (gd : Option (List Code)) (s : Shared) (r : Addr) (a b c d : Int) (ta tb tc td : Tok) (t1 : Tok) (Q : Value → Shared → Prop) (E : Value → Shared → Prop)
   (hA : dp + 5 < recursionLimit) (X : (hdT.heap_1 w.params).In s.heap) (hl : s.heap.IsList r [Value.int a ta, .int b tb, .int c tc, .int d td].toArray) (hi : IntsAre [Value.int a ta, .int b tb, .int c tc, .int d td] [a, b, c, d])
   (T : Top p loose mean mg mb s.heap) (hret : ∀ h' tk' l, s.heap.StaysIn h' → s.heap.objs.size ≤ h'.objs.size → RowAt h' l (b, a, c, d) → s.heap.get? l = none → Q (.ref l) ⟨h', s.gens, s.drawn, tk', s.os⟩) :
   wpAny (model Challenge.rw_pe0052_01.row.prog w) { handled := none, depth := dp, frames := fr, guards := gd, units := un } (call (.ref 56) [.ref r, .str (Str.ofString "a") t1]) Q E s := by
  w_on
  revert X hret; k_fill; intro X hret
  k_dflt (refine' enter_def (binds := [(Str.ofString "row", .ref r), (Str.ofString "letter", .str (Str.ofString "a") t1)]) X T.nolimit ?k6 ?k7 ?k8 ?k9 ?kB ?_ ?c1 ?c2 ?c3 ?c4; (case k6 => k_is); (case k7 => k_is); (case k8 => exact Nat.lt_of_le_of_lt (Nat.le_add_right dp 5) hA); (case k9 => exact BindsTo.of_eq rfl); (case kB => exact rfl); (case c1 => decide); (case c2 => exact rfl); (case c3 => exact rfl); (case c4 => exact rfl); k_whole)
  intro L' h₁ F' N'
  k_steps
  rename_i F9 N9 _
  exact hret _ _ _ F9.keep (fr_size F9) ⟨_, (N9 _ (.head _)).1, _, _, _, _, _, rfl⟩ (N9 _ (.head _)).2.2
theorem chg_b (w : World) {p : Program} {loose : List PySem.Str} (mean mg mb) (dp un : Nat) (fr : Option (List Env)) (gd : Option (List Code)) (s : Shared) (r : Addr) (a b c d : Int) (ta tb tc td : Tok) (t1 : Tok) (Q : Value → Shared → Prop) (E : Value → Shared → Prop)
   (hA : dp + 5 < recursionLimit) (X : (hdT.heap_1 w.params).In s.heap) (hl : s.heap.IsList r [Value.int a ta, .int b tb, .int c tc, .int d td].toArray) (hi : IntsAre [Value.int a ta, .int b tb, .int c tc, .int d td] [a, b, c, d])
   (T : Top p loose mean mg mb s.heap) (hret : ∀ h' tk' l, s.heap.StaysIn h' → s.heap.objs.size ≤ h'.objs.size → RowAt h' l (a, c, b, d) → s.heap.get? l = none → Q (.ref l) ⟨h', s.gens, s.drawn, tk', s.os⟩) :
   wpAny (model Challenge.rw_pe0052_01.row.prog w) { handled := none, depth := dp, frames := fr, guards := gd, units := un } (call (.ref 56) [.ref r, .str (Str.ofString "b") t1]) Q E s := by
  w_on
  revert X hret; k_fill; intro X hret
  k_dflt (refine' enter_def (binds := [(Str.ofString "row", .ref r), (Str.ofString "letter", .str (Str.ofString "b") t1)]) X T.nolimit ?k6 ?k7 ?k8 ?k9 ?kB ?_ ?c1 ?c2 ?c3 ?c4; (case k6 => k_is); (case k7 => k_is); (case k8 => exact Nat.lt_of_le_of_lt (Nat.le_add_right dp 5) hA); (case k9 => exact BindsTo.of_eq rfl); (case kB => exact rfl); (case c1 => decide); (case c2 => exact rfl); (case c3 => exact rfl); (case c4 => exact rfl); k_whole)
  intro L' h₁ F' N'
  k_steps
  rename_i F9 N9 _
  exact hret _ _ _ F9.keep (fr_size F9) ⟨_, (N9 _ (.head _)).1, _, _, _, _, _, rfl⟩ (N9 _ (.head _)).2.2
theorem chg_c (w : World) {p : Program} {loose : List PySem.Str} (mean mg mb) (dp un : Nat) (fr : Option (List Env)) (gd : Option (List Code)) (s : Shared) (r : Addr) (a b c d : Int) (ta tb tc td : Tok) (t1 : Tok) (Q : Value → Shared → Prop) (E : Value → Shared → Prop)
   (hA : dp + 5 < recursionLimit) (X : (hdT.heap_1 w.params).In s.heap) (hl : s.heap.IsList r [Value.int a ta, .int b tb, .int c tc, .int d td].toArray) (hi : IntsAre [Value.int a ta, .int b tb, .int c tc, .int d td] [a, b, c, d])
   (T : Top p loose mean mg mb s.heap) (hret : ∀ h' tk' l, s.heap.StaysIn h' → s.heap.objs.size ≤ h'.objs.size → RowAt h' l (a, b, d, c) → s.heap.get? l = none → Q (.ref l) ⟨h', s.gens, s.drawn, tk', s.os⟩) :
   wpAny (model Challenge.rw_pe0052_01.row.prog w) { handled := none, depth := dp, frames := fr, guards := gd, units := un } (call (.ref 56) [.ref r, .str (Str.ofString "c") t1]) Q E s := by
  w_on
  revert X hret; k_fill; intro X hret
  k_dflt (refine' enter_def (binds := [(Str.ofString "row", .ref r), (Str.ofString "letter", .str (Str.ofString "c") t1)]) X T.nolimit ?k6 ?k7 ?k8 ?k9 ?kB ?_ ?c1 ?c2 ?c3 ?c4; (case k6 => k_is); (case k7 => k_is); (case k8 => exact Nat.lt_of_le_of_lt (Nat.le_add_right dp 5) hA); (case k9 => exact BindsTo.of_eq rfl); (case kB => exact rfl); (case c1 => decide); (case c2 => exact rfl); (case c3 => exact rfl); (case c4 => exact rfl); k_whole)
  intro L' h₁ F' N'
  k_steps
  rename_i F9 N9 _
  exact hret _ _ _ F9.keep (fr_size F9) ⟨_, (N9 _ (.head _)).1, _, _, _, _, _, rfl⟩ (N9 _ (.head _)).2.2
theorem chg_sp (w : World) {p : Program} {loose : List PySem.Str} (mean mg mb) (dp un : Nat) (fr : Option (List Env)) (gd : Option (List Code)) (s : Shared) (r : Addr) (q : R4) (c : Nat) (t1 : Tok) (Q : Value → Shared → Prop) (E : Value → Shared → Prop)
   (hA : dp + 5 < recursionLimit) (X : (hdT.heap_1 w.params).In s.heap) (hl : RowAt s.heap r q) (hc : c = 97 ∨ c = 98 ∨ c = 99)
   (T : Top p loose mean mg mb s.heap) (hret : ∀ h' tk' l, s.heap.StaysIn h' → s.heap.objs.size ≤ h'.objs.size → RowAt h' l (st q c) → s.heap.get? l = none → Q (.ref l) ⟨h', s.gens, s.drawn, tk', s.os⟩) :
   wpAny (model Challenge.rw_pe0052_01.row.prog w) { handled := none, depth := dp, frames := fr, guards := gd, units := un } (call (.ref 56) [.ref r, .str ⟨#[c]⟩ t1]) Q E s := by
  obtain ⟨a, b, c', d⟩ := q
  obtain ⟨_, e, ta, tb, tc, td, n, rfl⟩ := hl
  have hl : s.heap.IsList r [Value.int a ta, .int b tb, .int c' tc, .int d td].toArray := ⟨_, e, rfl, n, rfl⟩
  have hi : IntsAre [Value.int a ta, .int b tb, .int c' tc, .int d td] [a, b, c', d] := .cons _ _ (.cons _ _ (.cons _ _ (.cons _ _ .nil)))
  rcases hc with rfl | rfl | rfl
  · exact chg_a w mean mg mb dp un fr gd s r a b c' d ta tb tc td t1 Q E hA X hl hi T hret
  · exact chg_b w mean mg mb dp un fr gd s r a b c' d ta tb tc td t1 Q E hA X hl hi T hret
  · exact chg_c w mean mg mb dp un fr gd s r a b c' d ta tb tc td t1 Q E hA X hl hi T hret
end Mine
end
section
open PySem PySem.W PyProof.Rows PySem.Calls
set_option maxRecDepth 100000
set_option maxHeartbeats 8000000
namespace Mine
local macro_rules | `(tactic| walk_at "call builtin:ord") => `(tactic| first | (refine ord_lit (c := 97) 97 (by decide) ?_) | (refine ord_lit (c := 98) 98 (by decide) ?_) | (refine ord_lit (c := 99) 99 (by decide) ?_))
local macro_rules | `(tactic| walk_at "binaryOp Sub int int") => `(tactic| first | (refine sub_lit 0 (by decide) ?_) | (refine sub_lit 1 (by decide) ?_) | (refine sub_lit 2 (by decide) ?_))
local macro_rules | `(tactic| walk_at "binaryOp Add int int") => `(tactic| first | (refine add_lit 1 (by decide) ?_) | (refine add_lit 2 (by decide) ?_) | (refine add_lit 3 (by decide) ?_))
noncomputable def rowJ (l : List Nat) (r : Addr) (i : Nat) (m : PySem.Str → Option Value) (news : List (Addr × Obj)) : Prop :=
  ∃ a b c d ta tb tc td n, ∃ f : PySem.Str → Option Value, m = (fun y => if y = Str.ofString "row" then some (.ref r) else f y) ∧ news = [(r, W.listOf #[.int a ta, .int b tb, .int c tc, .int d td] n)] ∧ (a, b, c, d) = (l.take i).foldl st (0, 1, 2, 3)
theorem row_sp (w : World) {p : Program} {loose : List PySem.Str} (mean mg mb) (dp un : Nat) (fr : Option (List Env)) (gd : Option (List Code)) (s : Shared) (wd : PySem.Str) (t1 : Tok) (Q : Value → Shared → Prop) (E : Value → Shared → Prop)
   (hA : dp + 5 < recursionLimit) (X : (hdT.heap_1 w.params).In s.heap) (hw : Ltr wd.cps.toList)
   (T : Top p loose mean mg mb s.heap) (hret : ∀ h' tk' r, s.heap.StaysIn h' → s.heap.objs.size ≤ h'.objs.size → RowAt h' r (wd.cps.toList.foldl st (0, 1, 2, 3)) → s.heap.get? r = none → Q (.ref r) ⟨h', s.gens, s.drawn, tk', s.os⟩) :
   wpAny (model Challenge.rw_pe0052_01.row.prog w) { handled := none, depth := dp, frames := fr, guards := gd, units := un } (call (.ref 77) [.str wd t1]) Q E s := by
  w_on
  revert X hret; k_fill; intro X hret
  k_dflt (refine' enter_def (binds := [(Str.ofString "word", .str wd t1)]) X T.nolimit ?k6 ?k7 ?k8 ?k9 ?kB ?_ ?c1 ?c2 ?c3 ?c4; (case k6 => k_is); (case k7 => k_is); (case k8 => exact Nat.lt_of_le_of_lt (Nat.le_add_right dp 5) hA); (case k9 => exact BindsTo.of_eq rfl); (case kB => exact rfl); (case c1 => decide); (case c2 => exact rfl); (case c3 => exact rfl); (case c4 => exact rfl); k_whole)
  intro L' h₁ F' N'
  iterate 16 (first | (k_unfold; (try dsimp only)) | (k_end; wrow_close) | walk1 | (dsimp only; walk1) | (leave1; walk_say "STEP leave1"; try dsimp only) | fail "no step")
  rename Fr _ _ _ _ => F1
  rename News _ _ _ _ => N1
  refine For_invVF F1 rfl rfl ?_ (hE := by passes_own)
  (first | (k_unfold; (try dsimp only)) | (k_end; wrow_close) | walk1 | (dsimp only; walk1) | (leave1; walk_say "STEP leave1"; try dsimp only) | fail "no step")
  refine iter_strN (rowJ wd.cps.toList _) rfl F1 N1 ⟨_, _, _, _, _, _, _, _, _, _, rfl, rfl, rfl⟩ ?_ ?_
  · intro i c u m₁ news₁ h tk own hc ha ho hJ F₁ N₁
    obtain ⟨a, b, c', d, ta, tb, tc, td, n, f, rfl, rfl, hr⟩ := hJ
    have hc' : c = 97 ∨ c = 98 ∨ c = 99 := hw c (by rw [Array.mem_toList_iff]; exact Array.mem_of_getElem? hc)
    clear F1 N1 ha
    have F₂ : Fr s.heap L' h _ := F₁
    have ho' : OwnOff own [_] := ho
    have N₂ : News s.heap L' h ((_, W.listOf #[.int a ta, .int b tb, .int c' tc, .int d td] n) :: own) := N₁
    clear F₁ N₁ ho
    rcases hc' with rfl | rfl | rfl
    all_goals (
      have hc2 : wd.cps.toList[i]? = some _ := (Array.getElem?_toList).trans hc
      k_steps
      rename Fr _ _ _ _ => F9
      rename News _ _ _ _ => N9
      refine InvEndN.intro (nx := [_]) F9 N9 ?j ?a (List.forall_mem_singleton.mpr (.tail _ (.head _))) (fun p hp => .tail _ (.tail _ hp))
      case a => rfl
      case j =>
        refine ⟨_, _, _, _, _, _, _, _, _, _, map_at (by rfl), rfl, ?_⟩
        rw [fold_next hc2, ← hr]
        rfl)
  · intro m₁ news₁ h tk hJ F₁ N₁
    obtain ⟨a, b, c', d, ta, tb, tc, td, n, f, rfl, rfl, hr⟩ := hJ
    k_steps
    rw [List.take_of_length_le (by simp)] at hr
    refine hret _ _ _ F₁.keep (fr_size F₁) ?_ (N₁ _ (.head _)).2.2
    rw [← hr]
    exact ⟨_, (N₁ _ (.head _)).1, _, _, _, _, _, rfl⟩
end Mine
end
section
open PySem PySem.W PyProof.Rows PySem.Calls
set_option maxRecDepth 100000
set_option maxHeartbeats 8000000
namespace Mine
noncomputable def redJ (l : List Nat) (q : R4) (h₀ : Heap) (r0 : Addr) (i : Nat) (m : PySem.Str → Option Value) (news : List (Addr × Obj)) : Prop :=
  ∃ r, ∃ f : PySem.Str → Option Value, m = (fun y => if y = Str.ofString "value" then some (.ref r) else if y = Str.ofString "function" then some (.ref 56) else f y) ∧ ((r = r0 ∧ RowAt h₀ r ((l.take i).foldl st q)) ∨ ∃ o, (r, o) ∈ news ∧ IsRow o ((l.take i).foldl st q))
theorem red_sp (w : World) {p : Program} {loose : List PySem.Str} (mean mg mb) (dp un : Nat) (fr : Option (List Env)) (gd : Option (List Code)) (s : Shared) (wd : PySem.Str) (t1 : Tok) (r : Addr) (q : R4) (Q : Value → Shared → Prop) (E : Value → Shared → Prop)
   (hA : dp + 10 < recursionLimit) (X : (hdT.heap_1 w.params).In s.heap) (hw : Ltr wd.cps.toList) (hr : RowAt s.heap r q)
   (T : Top p loose mean mg mb s.heap) (hret : ∀ h' tk' l, s.heap.StaysIn h' → s.heap.objs.size ≤ h'.objs.size → RowAt h' l (wd.cps.toList.foldl st q) → (l = r ∨ s.heap.get? l = none) → Q (.ref l) ⟨h', s.gens, s.drawn, tk', s.os⟩) :
   wpAny (model Challenge.rw_pe0052_01.row.prog w) { handled := none, depth := dp, frames := fr, guards := gd, units := un } (call (.ref 30) [.ref 56, .str wd t1, .ref r]) Q E s := by
  w_on
  revert X hret; k_fill; intro X hret
  k_dflt (refine' enter_def (binds := [(Str.ofString "function", .ref 56), (Str.ofString "sequence", .str wd t1), (Str.ofString "initial", .ref r)]) X T.nolimit ?k6 ?k7 ?k8 ?k9 ?kB ?_ ?c1 ?c2 ?c3 ?c4; (case k6 => k_is); (case k7 => k_is); (case k8 => exact Nat.lt_of_le_of_lt (Nat.le_add_right dp 10) hA); (case k9 => exact kp_binds X (fun _ => by kernel_rfl!)); (case kB => exact rfl); (case c1 => decide); (case c2 => exact rfl); (case c3 => exact rfl); (case c4 => exact rfl); k_whole)
  intro L' h₁ F' N'
  iterate 9 (first | (k_unfold; (try dsimp only)) | (k_end; wrow_close) | walk1 | (dsimp only; walk1) | (leave1; walk_say "STEP leave1"; try dsimp only) | fail "no step")
  refine iter_call fun o St ho W hIo hst => ?_
  have F₂ := F'.push o
  have N₂ := News.push F' N' o ho
  generalize h₁.objs.size = I at *
  have hst' : St 0 (h₁.push o) := hst
  generalize h₁.push o = h₂ at *
  clear F' N' hst
  have eI := (N₂ (I, o) (.head _)).1
  iterate 6 (first | (k_unfold; (try dsimp only)) | (k_end; wrow_close) | walk1 | (dsimp only; walk1) | (leave1; walk_say "STEP leave1"; try dsimp only) | fail "no step")
  rename Fr _ _ _ _ => F3
  rename News _ _ _ _ => N3
  obtain ⟨_, er, ta, tb, tc, td, n, rfl⟩ := id hr
  have e22 := X 22 _ (by k_is)
  have hne : r ≠ 22 := fun q => by rw [q, e22] at er; exact absurd (congrArg Obj.cls (Option.some.inj er)) (fun z => absurd (Value.type.inj z) (by decide))
  refine kto_is (F3.keep _ _ er) (F3.keep _ _ e22) hne (fun z => absurd (Value.type.inj z) (by decide)) ?_
  iterate 9 (first | (k_unfold; (try dsimp only)) | (k_end; wrow_close) | walk1 | (dsimp only; walk1) | (leave1; walk_say "STEP leave1"; try dsimp only) | fail "no step")
  rename Fr _ _ _ _ => F4
  rename News _ _ _ _ => N4
  refine For_invVF F4 rfl rfl ?_ (hE := by passes_own)
  (first | (k_unfold; (try dsimp only)) | (k_end; wrow_close) | walk1 | (dsimp only; walk1) | (leave1; walk_say "STEP leave1"; try dsimp only) | fail "no step")
  rename Heap => h4
  have hst4 : St 0 h4 := (W { handled := none, depth := dp, frames := fr, guards := gd, units := un } rfl).frame 0 h₂ h4 hst' fun b hb o' e => by
    rw [List.mem_singleton.mp hb] at e ⊢
    rw [eI] at e
    cases e
    exact (N4 (I, o) (.head _)).1
  refine (W _ rfl).self 0 _ _ _ hst4 (loop_invF (redJ wd.cps.toList q s.heap r) (W _ rfl) hIo ?_ ?_ (news := []) (by simp) hst4 F4 (fun p hp => by cases hp) ?_ ?_ ?_)
  · intro hm
    exact (N4 (I, o) (.head _)).2.1 (List.mem_singleton.mp hm).symm
  · intro b hb
    rw [List.mem_singleton.mp hb]
    exact (N4 (I, o) (.head _)).2.2
  · exact ⟨r, _, map_at2 (Str.ofString "value") (Str.ofString "function") (by rfl) (by rfl), .inl ⟨rfl, hr⟩⟩
  · intro i v m₁ news₁ h tk own hin hP hJ hwo F₁ N₁ hn₁
    obtain ⟨l, f, rfl, hl⟩ := hJ
    obtain ⟨c, u, hc, rfl⟩ := hP
    clear F4 N4
    have hcl : c = 97 ∨ c = 98 ∨ c = 99 := hw c (by rw [Array.mem_toList_iff]; exact Array.mem_of_getElem? hc)
    have hc2 : wd.cps.toList[i]? = some c := (Array.getElem?_toList).trans hc
    have hla : RowAt h l ((wd.cps.toList.take i).foldl st q) := by
      rcases hl with ⟨_, hl⟩ | ⟨o', hm, hx⟩
      · exact hl.keeps F₁.keep
      · exact ⟨o', (N₁ _ (List.mem_append_right _ hm)).1, hx⟩
    iterate 11 (first | (k_unfold; (try dsimp only)) | (k_end; wrow_close) | walk1 | (dsimp only; walk1) | (leave1; walk_say "STEP leave1"; try dsimp only) | fail "no step")

    refine chg_sp w mean mg mb (dp + 1) _ _ _ _ l _ c u _ _ (Nat.lt_of_le_of_lt (by omega) hA) (by exact X.keeps F₁.keep) (by exact hla) hcl (by exact T.keeps F₁.keep) fun h' tk' l' hs hz hl' hf => ?_
    have F₂ := F₁.keeps hs
    obtain ⟨ob, e', hx'⟩ := hl'
    have N₂ := news_fresh F₁ N₁ hs e' hf
    have hl8 : l' ∉ [I] := fun q => by
      obtain ⟨o8, e8⟩ := hwo I (.head _)
      rw [List.mem_singleton.mp q, e8] at hf
      cases hf
    clear F₁ N₁
    iterate 3 (first | (k_unfold; (try dsimp only)) | (k_end; wrow_close) | walk1 | (dsimp only; walk1) | (leave1; walk_say "STEP leave1"; try dsimp only) | fail "no step")
    rename Fr _ _ _ _ => F9
    rename News _ _ _ _ => N9
    refine ⟨rfl, _, _, _, [(l', ob)], rfl, F9, fun p hp => ?_, List.forall_mem_singleton.mpr hl8, ?_⟩
    · rcases List.mem_append.mp hp with hp | hp
      · exact N9 p (.tail _ (List.mem_append_left _ hp))
      · rw [List.mem_singleton.mp hp]; exact N9 _ (.head _)
    · refine ⟨l', _, map_at2 (Str.ofString "value") (Str.ofString "function") (by rfl) (by rfl), .inr ⟨_, .head _, ?_⟩⟩
      rw [fold_next hc2]
      exact hx'
  · intro m₁ news₁ h tk hJ F₁ N₁
    obtain ⟨l, f, rfl, hl⟩ := hJ
    clear F4 N4
    rw [List.take_of_length_le (by simp)] at hl
    have hla : RowAt h l (wd.cps.toList.foldl st q) ∧ (l = r ∨ s.heap.get? l = none) := by
      rcases hl with ⟨el, hl⟩ | ⟨o', hm, hx⟩
      · exact ⟨hl.keeps F₁.keep, .inl el⟩
      · exact ⟨⟨o', (N₁ _ hm).1, hx⟩, .inr (N₁ _ hm).2.2⟩
    clear hl
    k_steps
    exact hret _ _ _ F₁.keep (fr_size F₁) hla.1 hla.2
end Mine
end
section
open PySem PySem.W PyProof.Rows PySem.Calls
namespace Mine
open Builtin Builtin.Str StrLaws
/-- a word's number to the base four -/
noncomputable def rnk (l : List Nat) : Nat := l.foldl (fun a c => 4 * a + (c - 96)) 0
theorem rnk_from : ∀ (l : List Nat) (a : Nat), l.foldl (fun a c => 4 * a + (c - 96)) a = a * 4 ^ l.length + rnk l
  | [], a => by simp [rnk]
  | c :: l, a => by
    unfold rnk
    rw [List.foldl_cons, List.foldl_cons, rnk_from l, rnk_from l (4 * 0 + (c - 96)), List.length_cons, Nat.pow_succ]
    generalize 4 ^ l.length = n
    have e : (4 * a + (c - 96)) * n = a * (n * 4) + (4 * 0 + (c - 96)) * n := by
      rw [Nat.add_mul, Nat.mul_comm 4 a, Nat.mul_assoc, Nat.mul_comm 4 n]; simp
    omega
theorem rnk_append (l r : List Nat) : rnk (l ++ r) = rnk l * 4 ^ r.length + rnk r := by
  show (l ++ r).foldl _ 0 = _
  rw [List.foldl_append, rnk_from r]
  rfl
noncomputable def lj (p : List Nat) : List (List Nat) → List Nat
  | [] => []
  | [x] => x
  | x :: y :: r => x ++ p ++ lj p (y :: r)
theorem lj_cps (p : PySem.Str) : ∀ parts : List PySem.Str, (PySem.Str.join p parts).cps.toList = lj p.cps.toList (parts.map fun x => x.cps.toList)
  | [] => rfl
  | [x] => rfl
  | x :: y :: r => by
    show (x ++ p ++ PySem.Str.join p (y :: r)).cps.toList = _
    rw [PySem.Str.cps_append, PySem.Str.cps_append, Array.toList_append, Array.toList_append, lj_cps p (y :: r)]
    rfl
theorem lj_act {p p' : List Nat} (h : ∀ q : R4, p.foldl st q = p'.foldl st q) : ∀ (parts : List (List Nat)) (q : R4), (lj p parts).foldl st q = (lj p' parts).foldl st q
  | [], _ => rfl
  | [_], _ => rfl
  | x :: y :: r, q => by
    show (x ++ p ++ lj p (y :: r)).foldl st q = (x ++ p' ++ lj p' (y :: r)).foldl st q
    simp only [List.foldl_append, h]
    exact lj_act h (y :: r) _
theorem lj_ltr {p p' : List Nat} (hp : Ltr p') : ∀ (parts : List (List Nat)), Ltr (lj p parts) → Ltr (lj p' parts)
  | [], h => h
  | [_], h => h
  | x :: y :: r, h => by
    intro c hc
    have hc : c ∈ x ++ p' ++ lj p' (y :: r) := hc
    have h : Ltr (x ++ p ++ lj p (y :: r)) := h
    rcases List.mem_append.mp hc with hc | hc
    · rcases List.mem_append.mp hc with hc | hc
      · exact h c (List.mem_append_left _ (List.mem_append_left _ hc))
      · exact hp c hc
    · exact lj_ltr hp (y :: r) (fun c hc => h c (List.mem_append_right _ hc)) c hc
theorem lj_less {p p' : List Nat} (hl : p'.length ≤ p.length) (hr : rnk p' < rnk p) : ∀ (parts : List (List Nat)),
    (lj p' parts).length ≤ (lj p parts).length ∧ rnk (lj p' parts) ≤ rnk (lj p parts) ∧ (2 ≤ parts.length → rnk (lj p' parts) < rnk (lj p parts))
  | [] => ⟨Nat.le_refl _, Nat.le_refl _, fun h => absurd h (by simp)⟩
  | [_] => ⟨Nat.le_refl _, Nat.le_refl _, fun h => absurd h (by simp)⟩
  | x :: y :: r => by
    obtain ⟨a, b, _⟩ := lj_less hl hr (y :: r)
    have key : (x ++ p' ++ lj p' (y :: r)).length ≤ (x ++ p ++ lj p (y :: r)).length ∧ rnk (x ++ p' ++ lj p' (y :: r)) < rnk (x ++ p ++ lj p (y :: r)) := by
      refine ⟨by simp only [List.length_append]; omega, ?_⟩
      rw [rnk_append, rnk_append x p', rnk_append (x ++ p), rnk_append x p]
      have h1 : 4 ^ (lj p' (y :: r)).length ≤ 4 ^ (lj p (y :: r)).length := Nat.pow_le_pow_right (by decide) a
      have h2 : 4 ^ p'.length ≤ 4 ^ p.length := Nat.pow_le_pow_right (by decide) hl
      have h3 : 0 < 4 ^ (lj p' (y :: r)).length := Nat.pow_pos (by decide)
      have h4 : rnk x * 4 ^ p'.length ≤ rnk x * 4 ^ p.length := Nat.mul_le_mul_left _ h2
      have h5 : (rnk x * 4 ^ p'.length + rnk p') * 4 ^ (lj p' (y :: r)).length < (rnk x * 4 ^ p.length + rnk p) * 4 ^ (lj p' (y :: r)).length := Nat.mul_lt_mul_of_pos_right (by omega) h3
      have h6 : (rnk x * 4 ^ p.length + rnk p) * 4 ^ (lj p' (y :: r)).length ≤ (rnk x * 4 ^ p.length + rnk p) * 4 ^ (lj p (y :: r)).length := Nat.mul_le_mul_left _ h1
      omega
    exact ⟨key.1, Nat.le_of_lt key.2, fun _ => key.2⟩

theorem ltr_kind {x : PySem.Str} (h : Ltr x.cps.toList) : Builtin.Str.strKind x = 1 := by
  unfold Builtin.Str.strKind
  rw [if_pos]
  rw [Array.all_eq_true']
  intro c hc
  have := h c (Array.mem_toList_iff.mpr hc)
  rw [decide_eq_true_eq]
  omega
theorem parts_two (x : PySem.Str) (w : Nat) (a c : Nat) (r : List Nat) : 2 ≤ (partsFrom x w a (c :: r)).length := by
  obtain ⟨p, q, e⟩ := partsFrom_ne x w (c + w) r
  show 2 ≤ (strSub x a c :: partsFrom x w (c + w) r).length
  rw [e]
  simp
/-- a rule that lessens -/
structure Rule (p p' : PySem.Str) : Prop where
  lp : Ltr p.cps.toList
  lp' : Ltr p'.cps.toList
  len : p'.length ≤ p.length
  lt : rnk p'.cps.toList < rnk p.cps.toList
  act : ∀ q : R4, p.cps.toList.foldl st q = p'.cps.toList.foldl st q
/-- all of x put anew by a rule -/
noncomputable def put (x : PySem.Str) (pq : PySem.Str × PySem.Str) : PySem.Str := Txt.join pq.2 (Txt.split x pq.1)
structure Kept (x x' : PySem.Str) : Prop where
  ltr : Ltr x'.cps.toList
  len : x'.length ≤ x.length
  act : ∀ q : R4, x'.cps.toList.foldl st q = x.cps.toList.foldl st q
  rle : rnk x'.cps.toList ≤ rnk x.cps.toList
theorem split_cases (x p : PySem.Str) (hk : ¬ Builtin.Str.strKind x < Builtin.Str.strKind p) : 2 ≤ (Txt.split x p).length ∨ (Txt.split x p = [x] ∧ ∀ i, ¬ At x p x.length i) := by
  unfold Txt.split
  split
  · rename_i h
    refine .inr ⟨rfl, fun i hi => ?_⟩
    have := hi.1
    simp only [Bool.or_eq_true, decide_eq_true_eq] at h
    rcases h with h | h
    · omega
    · exact hk h
  · rcases occ_head x p (x.length + 1) (by omega) with ⟨e, hn⟩ | ⟨i, r, e, _⟩
    · rw [e]
      exact .inr ⟨rfl, hn⟩
    · rw [e]
      left
      rw [if_neg (by simp), partsBetween_eq]
      exact parts_two ..
theorem put_kept {x p p' : PySem.Str} (R : Rule p p') (hx : Ltr x.cps.toList) : Kept x (put x (p, p')) ∧ ((put x (p, p') = x ∧ ∀ i, ¬ At x p x.length i) ∨ rnk (put x (p, p')).cps.toList < rnk x.cps.toList) := by
  have e1 : (put x (p, p')).cps.toList = lj p'.cps.toList ((Txt.split x p).map fun x => x.cps.toList) := by
    unfold put Txt.join
    rw [glued_eq_join, lj_cps]
  have e2 : x.cps.toList = lj p.cps.toList ((Txt.split x p).map fun x => x.cps.toList) := by
    rw [← lj_cps, join_split]
  have hl : p'.cps.toList.length ≤ p.cps.toList.length := by simpa [PySem.Str.length] using R.len
  obtain ⟨a, b, c⟩ := lj_less hl R.lt ((Txt.split x p).map fun x => x.cps.toList)
  rw [← e1, ← e2] at a b c
  refine ⟨⟨?_, by simpa [PySem.Str.length] using a, fun q => ?_, b⟩, ?_⟩
  · rw [e1]; exact lj_ltr R.lp' _ (e2 ▸ hx)
  · rw [e1, ← lj_act R.act, ← e2]
  · rcases split_cases x p (by rw [ltr_kind hx, ltr_kind R.lp]; decide) with h | ⟨h, hn⟩
    · exact .inr (c (by simpa using h))
    · refine .inl ⟨?_, hn⟩
      unfold put Txt.join
      rw [h, glued_eq_join]
      rfl
theorem Kept.refl {x : PySem.Str} (hx : Ltr x.cps.toList) : Kept x x := ⟨hx, Nat.le_refl _, fun _ => rfl, Nat.le_refl _⟩
theorem Kept.trans {x y z : PySem.Str} (a : Kept x y) (b : Kept y z) : Kept x z := ⟨b.ltr, Nat.le_trans b.len a.len, fun q => (b.act q).trans (a.act q), Nat.le_trans b.rle a.rle⟩
theorem puts_kept : ∀ (rs : List (PySem.Str × PySem.Str)) (x : PySem.Str), (∀ r ∈ rs, Rule r.1 r.2) → Ltr x.cps.toList →
    Kept x (rs.foldl put x) ∧ ((rs.foldl put x = x ∧ ∀ r ∈ rs, ∀ i, ¬ At x r.1 x.length i) ∨ rnk (rs.foldl put x).cps.toList < rnk x.cps.toList)
  | [], x, _, hx => ⟨Kept.refl hx, .inl ⟨rfl, fun _ h => nomatch h⟩⟩
  | (p, p') :: rs, x, hr, hx => by
    obtain ⟨k1, c1⟩ := put_kept (hr _ (.head _)) hx
    obtain ⟨k2, c2⟩ := puts_kept rs (put x (p, p')) (fun r h => hr r (.tail _ h)) k1.ltr
    refine ⟨k1.trans k2, ?_⟩
    rw [List.foldl_cons]
    rcases c1 with ⟨e, hn⟩ | c1
    · rw [e] at c2 ⊢
      rcases c2 with ⟨e2, hn2⟩ | c2
      · refine .inl ⟨e2, fun r h => ?_⟩
        rcases List.mem_cons.mp h with rfl | h
        · exact hn
        · exact hn2 r h
      · exact .inr c2
    · exact .inr (Nat.lt_of_le_of_lt k2.rle c1)
noncomputable def rulesL : List (PySem.Str × PySem.Str) := [(Str.ofString "aa", Str.ofString ""), (Str.ofString "bb", Str.ofString ""), (Str.ofString "cc", Str.ofString ""), (Str.ofString "ca", Str.ofString "ac"), (Str.ofString "bab", Str.ofString "aba"), (Str.ofString "cbc", Str.ofString "bcb"), (Str.ofString "cbac", Str.ofString "bcba")]
theorem rules_good : ∀ r ∈ rulesL, Rule r.1 r.2 := by
  have h : ∀ r ∈ rulesL, (∀ c ∈ r.1.cps.toList, c = 97 ∨ c = 98 ∨ c = 99) ∧ (∀ c ∈ r.2.cps.toList, c = 97 ∨ c = 98 ∨ c = 99) ∧ r.2.length ≤ r.1.length ∧ rnk r.2.cps.toList < rnk r.1.cps.toList := by decide +kernel
  have h2 : ∀ r ∈ rulesL, ∀ q : R4, r.1.cps.toList.foldl st q = r.2.cps.toList.foldl st q := by
    intro r hr q
    obtain ⟨a, b, c, d⟩ := q
    simp only [rulesL, List.mem_cons, List.not_mem_nil, or_false] at hr
    rcases hr with rfl | rfl | rfl | rfl | rfl | rfl | rfl <;> rfl
  exact fun r hr => ⟨(h r hr).1, (h r hr).2.1, (h r hr).2.2.1, (h r hr).2.2.2, h2 r hr⟩
noncomputable def nf24 : List (List Nat) := [[], [97], [98], [99], [97, 98], [97, 99], [98, 97], [98, 99], [99, 98], [97, 98, 97], [97, 98, 99], [97, 99, 98], [98, 97, 99], [98, 99, 98], [99, 98, 97], [97, 98, 97, 99], [97, 98, 99, 98], [97, 99, 98, 97], [98, 97, 99, 98], [98, 99, 98, 97], [97, 98, 97, 99, 98], [97, 98, 99, 98, 97], [98, 97, 99, 98, 97], [97, 98, 97, 99, 98, 97]]
noncomputable def lhs7 : List (List Nat) := rulesL.map fun r => r.1.cps.toList
noncomputable def hasRule (l : List Nat) : Bool := lhs7.any fun p => (List.range (l.length + 1)).any fun i => (l.drop i).take p.length == p
theorem nf_step : ∀ v ∈ nf24, ∀ c ∈ [97, 98, 99], v ++ [c] ∈ nf24 ∨ hasRule (v ++ [c]) = true := by decide +kernel
theorem hasRule_at {l : List Nat} (h : hasRule l = true) : ∃ r ∈ rulesL, ∃ i, i + r.1.length ≤ l.length ∧ (l.drop i).take r.1.length = r.1.cps.toList := by
  unfold hasRule lhs7 at h
  rw [List.any_eq_true] at h
  obtain ⟨p, hp, h⟩ := h
  obtain ⟨r, hr, rfl⟩ := List.mem_map.mp hp
  rw [List.any_eq_true] at h
  obtain ⟨i, _, h⟩ := h
  have h := eq_of_beq h
  have hl : r.1.cps.toList.length = r.1.length := by simp [PySem.Str.length]
  rw [hl] at h
  refine ⟨r, hr, i, ?_, h⟩
  have h2 := congrArg List.length h
  rw [List.length_take, List.length_drop, hl] at h2
  have h3 : 1 ≤ r.1.length := (by decide +kernel : ∀ r ∈ rulesL, 1 ≤ r.1.length) r hr
  omega
/-- no rule's left side lies in it -/
noncomputable def Free (l : List Nat) : Prop := ∀ r ∈ rulesL, ∀ i, ¬ (i + r.1.length ≤ l.length ∧ (l.drop i).take r.1.length = r.1.cps.toList)
theorem free_nf : ∀ (n : Nat) (l : List Nat), l.length = n → Ltr l → Free l → l ∈ nf24
  | 0, l, hl, _, _ => by
    rw [List.length_eq_zero_iff.mp hl]; decide
  | n + 1, l, hl, ht, hf => by
    obtain ⟨v, c, rfl⟩ : ∃ v c, l = v ++ [c] := ⟨l.dropLast, l.getLast (by intro h; rw [h] at hl; cases hl), (List.dropLast_concat_getLast _).symm⟩
    have hv : v ∈ nf24 := by
      refine free_nf n v (by simpa using hl) (fun c hc => ht c (List.mem_append_left _ hc)) fun r hr i hi => hf r hr i ⟨by rw [List.length_append]; omega, ?_⟩
      rw [← hi.2, List.drop_append_of_le_length (by omega), List.take_append_of_le_length (by rw [List.length_drop]; omega)]
    have hc : c ∈ [97, 98, 99] := by
      rcases ht c (by simp) with rfl | rfl | rfl <;> decide
    rcases nf_step v hv c hc with h | h
    · exact h
    · obtain ⟨r, hr, i, h⟩ := hasRule_at h
      exact absurd h (hf r hr i)
theorem not_at_free {x : PySem.Str} (h : ∀ r ∈ rulesL, ∀ i, ¬ At x r.1 x.length i) : Free x.cps.toList := by
  intro r hr i hi
  refine h r hr i ⟨by simpa [PySem.Str.length] using hi.1, ?_⟩
  rw [subAt_eq, hi.2]
  exact beq_self_eq_true _
/-- one pass: either nothing more is to do, or the number falls -/
theorem pass_cases {x : PySem.Str} (hx : Ltr x.cps.toList) : Kept x (rulesL.foldl put x) ∧ ((rulesL.foldl put x = x ∧ x.cps.toList ∈ nf24) ∨ rnk (rulesL.foldl put x).cps.toList < rnk x.cps.toList) := by
  obtain ⟨k, c⟩ := puts_kept rulesL x rules_good hx
  refine ⟨k, c.imp (fun h => ⟨h.1, free_nf _ _ rfl hx (not_at_free h.2)⟩) id⟩
noncomputable def S (l : List Nat) : PySem.Str := ⟨l.toArray⟩
theorem lj_single : ∀ L : List Nat, lj [] (L.map fun c => [c]) = L
  | [] => rfl
  | [_] => rfl
  | a :: b :: r => by
    show [a] ++ [] ++ lj [] ((b :: r).map fun c => [c]) = _
    rw [lj_single (b :: r)]
    rfl
theorem join_single (L : List Nat) : Txt.join (Str.ofString "") (L.map fun c => ⟨#[c]⟩) = S L := by
  unfold Txt.join
  rw [glued_eq_join]
  have h := lj_cps (Str.ofString "") (L.map fun c => (⟨#[c]⟩ : PySem.Str))
  rw [List.map_map] at h
  have h2 : (Str.ofString "").cps.toList = [] := by decide +kernel
  rw [h2, show ((fun x : PySem.Str => x.cps.toList) ∘ fun c => (⟨#[c]⟩ : PySem.Str)) = fun c => [c] from rfl, lj_single] at h
  apply PySem.Str.ext'
  exact Array.toList_inj.mp (by rw [h]; rfl)
theorem joinOk_single (L : List Nat) (h : L.length ≤ 1000) : JoinOk (Str.ofString "") (L.map fun c => (⟨#[c]⟩ : PySem.Str)) = true := by
  refine joinOk_of_weight ?_ (by decide)
  have : ((L.map fun c => (⟨#[c]⟩ : PySem.Str)).map (·.length)).sum = L.length := by
    induction L with
    | nil => rfl
    | cons a r ih => rw [List.map_cons, List.map_cons, List.sum_cons, ih (by simp at h; omega)]; simp [PySem.Str.length]; omega
  rw [this, List.length_map]
  omega
theorem join_eq {prog : Program} {w : World} {A : Around} {E : Value → Shared → Prop} {s : Shared} {x : PySem.Str} {t : Tok} {Q : Value → Shared → Prop} {D : Addr} {l : List (PySem.Str × Tok)} {texts : List PySem.Str} (z : PySem.Str) (hl : s.heap.IsList D (strValues l).toArray) (ht : l.map (·.1) = texts) (hok : JoinOk x texts = true) (hz : Txt.join x texts = z)
    (hq : ∀ t' k, Q (.str z t') { s with toks := k }) : wpAny (model prog w) A (call (.builtin "str.join") [.str x t, .ref D]) Q E s := by
  subst hz
  exact SC.join hl ht hok hq
end Mine
end
section
open PySem PySem.W PyProof.Rows PySem.Calls
set_option maxRecDepth 100000
set_option maxHeartbeats 8000000
namespace Mine
theorem seq_at {j n : Nat} (h : j < n) : seqIndex? (j : Int) n = some j := by
  unfold seqIndex?
  have h1 : ¬ ((j : Int) < 0) := by omega
  simp only [h1, if_false]
  rw [if_pos (by simp; omega)]
  simp
/-- pairs of texts, laid in a row -/
noncomputable def flat : List ((PySem.Str × Tok) × (PySem.Str × Tok)) → List Value
  | [] => []
  | ((p, t), (q, u)) :: r => .str p t :: .str q u :: flat r
noncomputable abbrev tupOf (vs : List Value) : Obj := { cls := .type "tuple", data := .seq vs.toArray }
section
variable {prog : Program} {w : World} {A : Around} {E : Value → Shared → Prop} {s : Shared} {h₀ : Heap} {L : Addr} {m : PySem.Str → Option Value} {news : List (Addr × Obj)}
theorem tup_item {value slice : PySem.Expr} {T : Addr} {l : List Value} {k : Int} {u : Tok} (j : Nat) {x : Value} {Q : Value → Shared → Prop} (N : News h₀ L s.heap news) (hm : (T, tupOf l) ∈ news)
    (hkj : k = (j : Int)) (hj1 : j ≤ 1) (hx : l[j]? = some x) (h : Q x s)
    (hs : subscripted slice false (.ref T) (.int k u) = operate [.ref T, .int k u] (getItem (.ref T) (.int k u)) := by with_unfolding_all rfl) :
    wpAny (model prog w) A (subscriptTail value slice (.ref T) (.int k u)) Q E s := by
  subst hkj
  have hl : j < l.length := (List.getElem?_eq_some_iff.mp hx).1
  exact item_tupleT ⟨_, (N _ hm).1, rfl, 0, rfl⟩ (by omega) (by omega) (seq_at hl) hx h hs
end
section
variable {prog : Program} {w : World} {A : Around} {E : Value → Shared → Prop} {s : Shared} {h₀ : Heap} {L : Addr} {m : PySem.Str → Option Value} {news : List (Addr × Obj)}
theorem tup_drop {value slice : PySem.Expr} {T S : Addr} {l l' : List Value} {u : Tok} {Q : Value → Shared → Prop} {h₁ : Heap} (hS : S = s.heap.objs.size) (hh : h₁ = s.heap.push { cls := .type "slice", data := .fields #[.int 2 u, .none, .none] })
    (F : Fr h₀ L s.heap m) (N : News h₀ L s.heap news) (hm : (T, tupOf l) ∈ news) (hl : l.drop 2 = l') (h2 : 2 ≤ l.length) (hz : l.length ≤ 1000)
    (h : ∀ T' h', Fr h₀ L h' m → News h₀ L h' ((T', tupOf l') :: news) → Q (.ref T') { s with heap := h' })
    (hs : subscripted slice false (.ref T) (.ref s.heap.objs.size) = operate [.ref s.heap.objs.size, .ref T] (getItem (.ref T) (.ref s.heap.objs.size)) := by with_unfolding_all rfl)
    (hg : ∀ r, letTemporaryGo value (.ref T) r = pure () := by intro _; with_unfolding_all rfl) :
    wpAny (model prog w) A (subscriptTail value slice (.ref T) (.ref S)) Q E { s with heap := h₁ } := by
  subst hS; subst hh; subst hl
  exact slice_tuple_from (a := 2) F N ⟨_, (N _ hm).1, rfl, 0, rfl⟩ (by omega) (by simpa using h2) (fun h' F' N' => h _ h' F' (by simpa using N')) hs hg (by rw [sizeLine_eq, List.size_toArray]; omega)
end
theorem flat_len : ∀ r, (flat r).length = 2 * r.length
  | [] => rfl
  | _ :: r => by show (flat r).length + 1 + 1 = 2 * (r.length + 1); rw [flat_len r]; omega
theorem lj_len (p : List Nat) : ∀ parts : List (List Nat), (lj p parts).length + p.length = (parts.map (·.length)).sum + parts.length * p.length + (if parts = [] then p.length else 0)
  | [] => by simp [lj]
  | [x] => by simp [lj]
  | x :: y :: r => by
    have ih := lj_len p (y :: r)
    show (x ++ p ++ lj p (y :: r)).length + p.length = _
    rw [if_neg (by simp)] at ih ⊢
    simp only [List.length_append, List.map_cons, List.sum_cons, List.length_cons] at ih ⊢
    rw [Nat.add_mul, Nat.one_mul] at ih ⊢
    rw [Nat.add_mul]
    omega
theorem split_weight (x p : PySem.Str) (h1 : 1 ≤ p.length) : ((Txt.split x p).map (·.length)).sum + (Txt.split x p).length ≤ 2 * x.length + 2 := by
  have e : x.cps.toList = lj p.cps.toList ((Txt.split x p).map fun x => x.cps.toList) := by rw [← lj_cps, StrLaws.join_split]
  have h := lj_len p.cps.toList ((Txt.split x p).map fun x => x.cps.toList)
  rw [← e] at h
  have hx : x.cps.toList.length = x.length := by simp [PySem.Str.length]
  have hp : p.cps.toList.length = p.length := by simp [PySem.Str.length]
  have hs : (((Txt.split x p).map fun x => x.cps.toList).map (·.length)).sum = ((Txt.split x p).map (·.length)).sum := by
    rw [List.map_map]; rfl
  rw [hs, hx, hp, List.length_map] at h
  cases ht : Txt.split x p with
  | nil => simp
  | cons a r =>
    rw [ht] at h
    rw [if_neg (by simp), List.length_cons, Nat.add_mul, Nat.one_mul] at h
    rw [List.length_cons]
    have h2 : r.length ≤ r.length * p.length := Nat.le_mul_of_pos_right _ h1
    omega
noncomputable def repFd (P : Params) : Option FuncData := match (hdT.heap_1 P).lookup 37 with
  | some ⟨_, _, .func fd, _⟩ => some fd
  | _ => none
noncomputable def repJ (R : PySem.Str) (n : Nat) (m : PySem.Str → Option Value) (news : List (Addr × Obj)) : Prop :=
  ∃ x t T r, ∃ f : PySem.Str → Option Value, m = (fun y => if y = Str.ofString "text" then some (.str x t) else if y = Str.ofString "pairs" then some (.ref T) else f y) ∧ news = [(T, tupOf (flat r))] ∧ r.length = n ∧ n ≤ 20 ∧ (r.map fun y => (y.1.1, y.2.1)).foldl put x = R ∧
    (∀ k, (((r.map fun y => (y.1.1, y.2.1)).take k).foldl put x).length ≤ 1000) ∧ (∀ y ∈ r, 1 ≤ y.1.1.length ∧ y.2.1.length ≤ 16)
local macro_rules | `(tactic| walk_at "subscriptTail") => `(tactic| first | (refine tup_item 0 (by assumption) (by k_mem) (by rfl) (by decide) (by rfl) ?_) | (refine tup_item 1 (by assumption) (by k_mem) (by rfl) (by decide) (by rfl) ?_))
theorem rep_sp (w : World) {p : Program} {loose : List PySem.Str} (mean mg mb) (dp un : Nat) (fr : Option (List Env)) (gd : Option (List Code)) (s : Shared) (x : PySem.Str) (t1 : Tok) (ps : List ((PySem.Str × Tok) × (PySem.Str × Tok))) (Q : Value → Shared → Prop) (E : Value → Shared → Prop)
   (hA : dp + 5 < recursionLimit) (X : (hdT.heap_1 w.params).In s.heap) (hl : ps.length ≤ 20) (hs : ∀ k, (((ps.map fun y => (y.1.1, y.2.1)).take k).foldl put x).length ≤ 1000) (hp : ∀ y ∈ ps, 1 ≤ y.1.1.length ∧ y.2.1.length ≤ 16)
   (hb : (repFd w.params).bind (fun fd => peek1 (hdT.heap_1 w.params) ⟨Challenge.rw_pe0052_01.row.prog, w.params⟩ (bindArgs fd ⟨.str x t1 :: flat ps, []⟩)) = some (tupOf (flat ps), fun D => some [(Str.ofString "text", .str x t1), (Str.ofString "pairs", .ref D)]))
   (T : Top p loose mean mg mb s.heap) (hret : ∀ h' tk' t, s.heap.StaysIn h' → s.heap.objs.size ≤ h'.objs.size → Q (.str ((ps.map fun y => (y.1.1, y.2.1)).foldl put x) t) ⟨h', s.gens, s.drawn, tk', s.os⟩) :
   wpAny (model Challenge.rw_pe0052_01.row.prog w) { handled := none, depth := dp, frames := fr, guards := gd, units := un } (call (.ref 37) (.str x t1 :: flat ps)) Q E s := by
  w_on
  revert X hret; k_fill; intro X hret
  k_dflt (refine' enter_defV (tup := tupOf (flat ps)) (binds := fun D => [(Str.ofString "text", .str x t1), (Str.ofString "pairs", .ref D)]) X T.nolimit ?k6 ?k7 ?k8 ?k9 ?kA ?kB ?c1 ?_ ?c2 ?c3 ?c4; (case k6 => k_is); (case k7 => k_is); (case k8 => exact Nat.lt_of_le_of_lt (Nat.le_add_right dp 5) hA); (case k9 => exact rfl); (case kA => exact hb); (case kB => exact fun _ => rfl); (case c1 => decide); (case c2 => exact rfl); (case c3 => exact rfl); (case c4 => exact rfl); k_whole)
  intro T' L' h₁ tk F' N'
  iterate 1 (first | (k_unfold; (try dsimp only)) | (k_end; wrow_close) | walk1 | (dsimp only; walk1) | (leave1; walk_say "STEP leave1"; try dsimp only) | fail "no step")
  refine While_inv2 (repJ ((ps.map fun y => (y.1.1, y.2.1)).foldl put x)) F' N' ⟨x, t1, T', ps, _, map_at2 (Str.ofString "text") (Str.ofString "pairs") (by rfl) (by rfl), rfl, rfl, hl, rfl, hs, hp⟩ ?_
  intro n m₁ news₁ h₂ tk₂ F₂ N₂ hJ
  obtain ⟨x₂, t₂, T₂, r, f, rfl, rfl, rfl, hl₂, e₂, hs₂, hp₂⟩ := hJ
  clear F' N'
  iterate 2 (first | (k_unfold; (try dsimp only)) | (k_end; wrow_close) | walk1 | (dsimp only; walk1) | (leave1; walk_say "STEP leave1"; try dsimp only) | fail "no step")
  refine ktl_truthyK N₂ (.head _) (by rw [flat_len]; omega) ?_
  cases r with
  | nil =>
    rw [if_neg (by decide)]
    k_steps
    have e₃ : x₂ = _ := e₂
    subst e₃
    exact hret _ _ _ F₂.keep (fr_size F₂)
  | cons y r =>
    obtain ⟨⟨p, t⟩, q, u⟩ := y
    rw [if_pos (by rfl)]
    obtain ⟨hp1, hq1⟩ := hp₂ _ (.head _)
    have hp1 : 1 ≤ p.length := hp1
    have hq1 : q.length ≤ 16 := hq1
    have hx1 : x₂.length ≤ 1000 := hs₂ 0
    have hsw := split_weight x₂ p hp1
    iterate 20 (first | (k_unfold; (try dsimp only)) | (k_end; wrow_close) | walk1 | (dsimp only; walk1) | (leave1; walk_say "STEP leave1"; try dsimp only) | fail "no step")
    refine KSpl.split1 F₂ N₂ (by rw [beq_eq_false_iff_ne]; omega) ?_ (by rw [sizeLine_eq]; omega)
    intro D l h' k e a F3 N3 l1
    clear F₂ N₂
    (first | (k_unfold; (try dsimp only)) | (k_end; wrow_close) | walk1 | (dsimp only; walk1) | (leave1; walk_say "STEP leave1"; try dsimp only) | fail "no step")
    refine SC.join (News.isList N3 (.head _)) e (joinOk_of_weight (by omega) hq1) ?_
    intro t' k'
    iterate 10 (first | (k_unfold; (try dsimp only)) | (k_end; wrow_close) | walk1 | (dsimp only; walk1) | (leave1; walk_say "STEP leave1"; try dsimp only) | fail "no step")
    rename Fr _ _ _ _ => F4
    rename News _ _ _ _ => N4
    refine tup_drop rfl rfl F4 N4 (.tail _ (.head _)) rfl (by rw [flat_len, List.length_cons]; omega) (by rw [flat_len]; omega) ?_
    intro T3 h3 F5 N5
    clear F4 N4
    iterate 2 (first | (k_unfold; (try dsimp only)) | (k_end; wrow_close) | walk1 | (dsimp only; walk1) | (leave1; walk_say "STEP leave1"; try dsimp only) | fail "no step")
    rename Fr _ _ _ _ => F6
    rename News _ _ _ _ => N6
    refine ⟨_, _, _, _, r.length, rfl, F6, fun p hp => N6 p ?_, Nat.lt_succ_self _, _, _, T3, r, _, map_at2 (Str.ofString "text") (Str.ofString "pairs") (by rfl) (by rfl), rfl, rfl, Nat.le_of_succ_le hl₂, e₂, fun k => hs₂ (k + 1), fun y hy => hp₂ y (.tail _ hy)⟩
    exact List.mem_singleton.mp hp ▸ .head _
end Mine
end
section
open PySem PySem.W PyProof.Rows PySem.Calls
set_option maxRecDepth 100000
set_option maxHeartbeats 8000000
namespace Mine
noncomputable def finL : List (PySem.Str × PySem.Str) := [(Str.ofString "c", Str.ofString "d"), (Str.ofString "b", Str.ofString "c"), (Str.ofString "a", Str.ofString "b")]
theorem fin_nf : ∀ v ∈ nf24, finL.foldl put (S v) = S (v.map (· + 1)) := by decide +kernel
theorem fin_len : ∀ v ∈ nf24, ∀ k ∈ List.range 4, ((finL.take k).foldl put (S v)).length ≤ 1000 := by decide +kernel
noncomputable def shoJ (x : PySem.Str) (n : Nat) (m : PySem.Str → Option Value) (_news : List (Addr × Obj)) : Prop :=
  ∃ y t, ∃ f : PySem.Str → Option Value, m = (fun z => if z = Str.ofString "word" then some (.str y t) else f z) ∧ Kept x y ∧ rnk y.cps.toList = n
theorem puts_len {x : PySem.Str} (hx : Ltr x.cps.toList) (k : Nat) : ((rulesL.take k).foldl put x).length ≤ x.length :=
  (puts_kept (rulesL.take k) x (fun r h => rules_good r (List.mem_of_mem_take h)) hx).1.len
theorem rep_rules (w : World) {p : Program} {loose : List PySem.Str} (mean mg mb) (dp un : Nat) (fr : Option (List Env)) (gd : Option (List Code)) (s : Shared) (x : PySem.Str) (t1 : Tok) (a0 a1 a2 a3 a4 a5 a6 a7 a8 a9 a10 a11 a12 a13 : Tok) (Q : Value → Shared → Prop) (E : Value → Shared → Prop)
   (hA : dp + 5 < recursionLimit) (X : (hdT.heap_1 w.params).In s.heap) (hs : ∀ k, ((rulesL.take k).foldl put x).length ≤ 1000)
   (T : Top p loose mean mg mb s.heap) (hret : ∀ h' tk' t, s.heap.StaysIn h' → s.heap.objs.size ≤ h'.objs.size → Q (.str (rulesL.foldl put x) t) ⟨h', s.gens, s.drawn, tk', s.os⟩) :
   wpAny (model Challenge.rw_pe0052_01.row.prog w) { handled := none, depth := dp, frames := fr, guards := gd, units := un } (call (.ref 37) [.str x t1, .str (Str.ofString "aa") a0, .str (Str.ofString "") a1, .str (Str.ofString "bb") a2, .str (Str.ofString "") a3, .str (Str.ofString "cc") a4, .str (Str.ofString "") a5, .str (Str.ofString "ca") a6, .str (Str.ofString "ac") a7, .str (Str.ofString "bab") a8, .str (Str.ofString "aba") a9, .str (Str.ofString "cbc") a10, .str (Str.ofString "bcb") a11, .str (Str.ofString "cbac") a12, .str (Str.ofString "bcba") a13]) Q E s :=
  rep_sp w mean mg mb dp un fr gd s x t1 [((Str.ofString "aa", a0), (Str.ofString "", a1)), ((Str.ofString "bb", a2), (Str.ofString "", a3)), ((Str.ofString "cc", a4), (Str.ofString "", a5)), ((Str.ofString "ca", a6), (Str.ofString "ac", a7)), ((Str.ofString "bab", a8), (Str.ofString "aba", a9)), ((Str.ofString "cbc", a10), (Str.ofString "bcb", a11)), ((Str.ofString "cbac", a12), (Str.ofString "bcba", a13))] Q E hA X (Nat.le_of_ble_eq_true rfl) hs (by simp only [List.forall_mem_cons, List.not_mem_nil, false_imp_iff, implies_true, and_true]; decide +kernel) (by kernel_rfl!) T hret
theorem rep_fin (w : World) {p : Program} {loose : List PySem.Str} (mean mg mb) (dp un : Nat) (fr : Option (List Env)) (gd : Option (List Code)) (s : Shared) (x : PySem.Str) (t1 : Tok) (a0 a1 a2 a3 a4 a5 : Tok) (Q : Value → Shared → Prop) (E : Value → Shared → Prop)
   (hA : dp + 5 < recursionLimit) (X : (hdT.heap_1 w.params).In s.heap) (hs : ∀ k, ((finL.take k).foldl put x).length ≤ 1000)
   (T : Top p loose mean mg mb s.heap) (hret : ∀ h' tk' t, s.heap.StaysIn h' → s.heap.objs.size ≤ h'.objs.size → Q (.str (finL.foldl put x) t) ⟨h', s.gens, s.drawn, tk', s.os⟩) :
   wpAny (model Challenge.rw_pe0052_01.row.prog w) { handled := none, depth := dp, frames := fr, guards := gd, units := un } (call (.ref 37) [.str x t1, .str (Str.ofString "c") a0, .str (Str.ofString "d") a1, .str (Str.ofString "b") a2, .str (Str.ofString "c") a3, .str (Str.ofString "a") a4, .str (Str.ofString "b") a5]) Q E s :=
  rep_sp w mean mg mb dp un fr gd s x t1 [((Str.ofString "c", a0), (Str.ofString "d", a1)), ((Str.ofString "b", a2), (Str.ofString "c", a3)), ((Str.ofString "a", a4), (Str.ofString "b", a5))] Q E hA X (Nat.le_of_ble_eq_true rfl) hs (by simp only [List.forall_mem_cons, List.not_mem_nil, false_imp_iff, implies_true, and_true]; decide +kernel) (by kernel_rfl!) T hret
theorem sho_sp (w : World) {p : Program} {loose : List PySem.Str} (mean mg mb) (dp un : Nat) (fr : Option (List Env)) (gd : Option (List Code)) (s : Shared) (x : PySem.Str) (t1 : Tok) (Q : Value → Shared → Prop) (E : Value → Shared → Prop)
   (hA : dp + 10 < recursionLimit) (X : (hdT.heap_1 w.params).In s.heap) (hw : Ltr x.cps.toList) (hx : x.length ≤ 1000)
   (T : Top p loose mean mg mb s.heap) (hret : ∀ h' tk' t v, s.heap.StaysIn h' → s.heap.objs.size ≤ h'.objs.size → v ∈ nf24 → (∀ q : R4, v.foldl st q = x.cps.toList.foldl st q) → Q (.str (S (v.map (· + 1))) t) ⟨h', s.gens, s.drawn, tk', s.os⟩) :
   wpAny (model Challenge.rw_pe0052_01.row.prog w) { handled := none, depth := dp, frames := fr, guards := gd, units := un } (call (.ref 49) [.str x t1]) Q E s := by
  w_on
  revert X hret; k_fill; intro X hret
  k_dflt (refine' enter_def (binds := [(Str.ofString "word", .str x t1)]) X T.nolimit ?k6 ?k7 ?k8 ?k9 ?kB ?_ ?c1 ?c2 ?c3 ?c4; (case k6 => k_is); (case k7 => k_is); (case k8 => exact Nat.lt_of_le_of_lt (Nat.le_add_right dp 10) hA); (case k9 => exact BindsTo.of_eq rfl); (case kB => exact rfl); (case c1 => decide); (case c2 => exact rfl); (case c3 => exact rfl); (case c4 => exact rfl); k_whole)
  intro L' h₁ F' N'
  iterate 2 (first | (k_unfold; (try dsimp only)) | (k_end; wrow_close) | walk1 | (dsimp only; walk1) | (leave1; walk_say "STEP leave1"; try dsimp only) | fail "no step")
  refine While_inv2 (shoJ x) F' N' ⟨x, t1, _, map_at (x := Str.ofString "word") (by rfl), Kept.refl hw, rfl⟩ ?_
  intro n m₁ news₁ h₂ tk₂ F₂ N₂ hJ
  obtain ⟨y, t, f, rfl, hK, hn⟩ := hJ
  clear F' N'
  k_steps
  refine rep_rules w mean mg mb (dp + 1) _ _ _ _ y _ _ _ _ _ _ _ _ _ _ _ _ _ _ _ _ _ (Nat.lt_of_le_of_lt (by omega) hA) (by exact X.keeps F₂.keep) (fun k => Nat.le_trans (puts_len hK.ltr k) (Nat.le_trans hK.len hx)) (by exact T.keeps F₂.keep) fun h' tk' t' hs hz => ?_
  obtain ⟨hK2, hc⟩ := pass_cases hK.ltr
  generalize rulesL.foldl put y = z at hK2 hc ⊢
  have F3 := F₂.keeps hs
  have N3 := N₂.grown hs
  clear F₂ N₂
  k_steps
  · rename_i e
    have e : z = y := by simpa using e
    have hy : y.cps.toList ∈ nf24 := by
      rcases hc with hc | hc
      · exact hc.2
      · rw [e] at hc; exact absurd hc (Nat.lt_irrefl _)
    have ey : y = S y.cps.toList := by cases y; simp [S]
    refine rep_fin w mean mg mb (dp + 1) _ _ _ _ y _ _ _ _ _ _ _ _ _ (Nat.lt_of_le_of_lt (by omega) hA) (by exact X.keeps (Fr.keep (by assumption))) (fun k => ?_) (by exact T.keeps (Fr.keep (by assumption))) fun h9 tk9 t9 hs9 hz9 => ?_
    · rw [ey]
      by_cases hk : k < 4
      · exact fin_len _ hy k (List.mem_range.mpr hk)
      · have := fin_len _ hy 3 (by decide)
        rw [List.take_of_length_le (by show 3 ≤ k; omega)]
        exact this
    · rename Fr _ _ _ _ => F9
      rw [show finL.foldl put y = S (y.cps.toList.map (· + 1)) from (congrArg (finL.foldl put) ey).trans (fin_nf _ hy)]
      k_steps
      exact hret _ _ _ _ (fun b o e => hs9 b o (F9.keep b o e)) (Nat.le_trans (fr_size F9) hz9) hy hK.act
  · rename (_ == _) = false => e
    have hlt : rnk z.cps.toList < rnk y.cps.toList := by
      rcases hc with hc | hc
      · exact absurd hc.1 (by simpa using e)
      · exact hc
    rename Fr _ _ _ _ => F9
    rename News _ _ _ _ => N9
    exact ⟨_, _, _, _, rnk z.cps.toList, rfl, F9, N9, hn ▸ hlt, z, t', _, map_at (x := Str.ofString "word") (by rfl), hK.trans hK2, rfl⟩
end Mine
end
section
open PySem PySem.W PyProof.Rows PySem.Calls PyProof.Rows.LCg
namespace Mine
/-- what stands behind an element's run: old objects kept, the extra ones new -/
noncomputable def EltEnd (h : Heap) (s : Shared) (R : Value → List (Addr × Obj) → Prop) (news : List (Addr × Obj)) (y : Value) (s' : Shared) : Prop :=
  ∃ h' tk' extra, s' = { s with heap := h', toks := tk' } ∧ h.StaysIn h' ∧ (∀ p ∈ extra, h'.get? p.1 = some p.2 ∧ h.get? p.1 = none) ∧ R y (extra ++ news)
section
variable {prog : Program} {w : World} {A : Around} {h₀ : Heap} {L : Addr} {m : PySem.Str → Option Value} {env : Env} {elt : PySem.Expr} {x : PySem.Str} {scope : Scope} {cl : List (PySem.Str × Addr)} {s : Shared}
  {S : List (Addr × Obj) → Prop} {P : Nat → Value → Prop} {Fin : List Value → List (Addr × Obj) → Prop}
theorem comp_rest (R : Nat → Value → List (Addr × Obj) → Prop) (hR : ∀ i y news extra, R i y news → R i y (extra ++ news)) (hS : ∀ news extra, S news → S (extra ++ news))
    (n : Nat) (news₀ : List (Addr × Obj)) (hS₀ : S news₀)
    (turn : ∀ i v C oC m₂ h tk (news more : List (Addr × Obj)) (E' : Value → Shared → Prop), i < n → P i v → NsObj oC m₂ → m₂ x = some v → h.get? C = some oC → Fr h₀ L h m → News h₀ L h (more ++ (C, oC) :: news) → C ≠ L → (∀ p ∈ news, p.1 ≠ C) → (∀ p ∈ news₀, p ∈ news) → S news →
      wpAny (model prog w) A (eval elt (compEnvC scope cl C env)) (EltEnd h s (R i) news) E' { s with heap := h, toks := tk })
    (done : ∀ ys news, ys.length = n → (∀ i y, ys[i]? = some y → R i y news) → (∀ p ∈ news₀, p ∈ news) → S news → Fin ys news) :
    CompRest prog w A h₀ L m env elt x scope cl s S P Fin n 0 [] news₀ := by
  suffices H : ∀ (k i : Nat) (ys : List Value) (news : List (Addr × Obj)), i + k = n → ys.length = i → (∀ j y, ys[j]? = some y → R j y news) → (∀ p ∈ news₀, p ∈ news) → S news →
      CompRest prog w A h₀ L m env elt x scope cl s S P Fin k i ys news from
    H n 0 [] news₀ (Nat.zero_add n) rfl (fun j y e => by simp at e) (fun _ hp => hp) hS₀
  intro k
  induction k with
  | zero =>
    intro i ys news hi hl hy hn hs
    exact CompRest.zero (done ys news (by omega) hy hn hs)
  | succ k ih =>
    intro i ys news hi hl hy hn hs
    refine CompRest.succ fun v I oI C oC D m₂ h tk E' hP hoC hm₂ F N off ne => ?_
    have offm := off.mem
    refine wpAny_mono (turn i v C oC m₂ h tk news [(I, oI), (D, lst ys)] E' (by omega) hP hoC hm₂ (N (C, oC) (.tail _ (.head _))).1 F (fun p hp => ?_) (N (C, oC) (.tail _ (.head _))).2.1 (fun p hp => (offm p hp).2.1) hn hs) (fun y s' he => ?_) fun _ _ e => e
    · rcases List.mem_cons.mp hp with rfl | hp
      · exact N _ (.head _)
      · rcases List.mem_cons.mp hp with rfl | hp
        · exact N _ (.tail _ (.tail _ (.head _)))
        · rcases List.mem_cons.mp hp with rfl | hp
          · exact N _ (.tail _ (.head _))
          · exact N _ (.tail _ (.tail _ (.tail _ hp)))
    obtain ⟨h', tk', extra, rfl, hk, hx, hr⟩ := he
    have F' := F.keeps hk
    have N' := N.grown hk
    have live : ∀ a o, h.get? a = some o → ∀ p ∈ extra, p.1 ≠ a := fun a o e p hp q => by
      have := (hx p hp).2
      rw [q, e] at this
      cases this
    have NX : News h₀ L h' extra := fun p hp => by
      refine ⟨(hx p hp).1, fun q => ?_, ?_⟩
      · obtain ⟨oL, es, ep, hL, r⟩ := F.ns
        exact live _ _ hL p hp q
      · cases q : h₀.get? p.1 with
        | none => rfl
        | some o' => exact absurd rfl (live _ _ (F.keep _ _ q) p hp)
    refine CompEnd.intro (all := (I, oI) :: (C, oC) :: (D, lst ys) :: (extra ++ news)) F' (fun p hp => ?_) (extra ++ news) (fun p hp => hp) (Off3.of fun p hp => ?_) (hS _ _ hs)
      (ih (i + 1) (ys ++ [y]) (extra ++ news) (by omega) (by simp [hl]) (fun j z e => ?_) (fun p hp => List.mem_append_right _ (hn p hp)) (hS _ _ hs))
    · rcases List.mem_cons.mp hp with rfl | hp
      · exact N' _ (.head _)
      · rcases List.mem_cons.mp hp with rfl | hp
        · exact N' _ (.tail _ (.head _))
        · rcases List.mem_cons.mp hp with rfl | hp
          · exact N' _ (.tail _ (.tail _ (.head _)))
          · rcases List.mem_append.mp hp with hp | hp
            · exact NX p hp
            · exact N' _ (.tail _ (.tail _ (.tail _ hp)))
    · rcases List.mem_append.mp hp with hp | hp
      · exact ⟨live _ _ (N _ (.head _)).1 p hp, live _ _ (N _ (.tail _ (.head _))).1 p hp, live _ _ (N _ (.tail _ (.tail _ (.head _)))).1 p hp⟩
      · exact offm p hp
    · rw [List.getElem?_append] at e
      split at e
      · exact hR _ _ _ _ (hy j z e)
      · rename_i hj
        have hj2 : j = i := by
          have := (List.getElem?_eq_some_iff.mp e).1
          simp at this
          omega
        subst hj2
        rw [hl, Nat.sub_self] at e
        simp at e
        subst e
        exact hr
end
theorem strs_of : ∀ (ys : List Value) (f : Nat → PySem.Str), (∀ i y, ys[i]? = some y → ∃ t : Tok, y = Value.str (f i) t) → ∃ l : List (PySem.Str × Tok), ys = strValues l ∧ l.map (·.1) = (List.range ys.length).map f
  | [], _, _ => ⟨[], rfl, rfl⟩
  | y :: ys, f, h => by
    obtain ⟨t, rfl⟩ := h 0 _ rfl
    obtain ⟨l, e1, e2⟩ := strs_of ys (fun i => f (i + 1)) fun i z e => h (i + 1) z (by simpa using e)
    refine ⟨(f 0, t) :: l, by rw [e1]; rfl, ?_⟩
    rw [List.map_cons, e2, List.length_cons, List.range_succ_eq_map, List.map_cons, List.map_map]
    rfl
/-- a block's own name -/
theorem name_comp {M : Model} {A : Around} {E : Value → Shared → Prop} {s : Shared} {C : Addr} {oC : Obj} {m₂ : PySem.Str → Option Value} {scope : Scope} {cl : List (PySem.Str × Addr)} {env : Env} {x : PySem.Str} {pos : Pos} {v : Value} {Q : Value → Shared → Prop}
    (hC : s.heap.get? C = some oC) (hoC : NsObj oC m₂) (hm : m₂ x = some v) (h : Q v s) (hk : (compEnvC scope cl C env).scope.kind = .function) (hx : (compEnvC scope cl C env).kindOf x = some .local) (hb : (x == ("__debug__" : PySem.Str)) = false := by decide) :
    wpAny M A (eval (.Name x pos) (compEnvC scope cl C env)) Q E s := wpAny_Name (wpAny_loadName_local hk hx (hoC.ns hC) hm h) hb
end Mine
end
section
open PySem PySem.W PyProof.Rows PySem.Calls
set_option maxRecDepth 100000
set_option maxHeartbeats 8000000
namespace Mine
noncomputable def letOf (x : Int) (k : Nat) : Nat := 97 + (x.fdiv 13 / 3 ^ k % 3).toNat
noncomputable def wordOf (x : Int) : List Nat := (List.range (x % 13).toNat).map (letOf x)
theorem pow_ok : ∀ i : Nat, i < 13 → (3 : Int) ^ i ≠ 0 ∧ ((3 : Int) ^ i).natAbs < 1073741824 := by decide +kernel
section
variable {prog : Program} {w : World} {A : Around} {E : Value → Shared → Prop} {s : Shared}
theorem pow3 {i : Nat} {t u : Tok} {Q : Value → Shared → Prop} (hi : i < 13) (h : Q (.int (3 ^ i) s.toks) { s with toks := s.toks + 1 }) : wpAny (model prog w) A (binaryOp .Pow (.int 3 t) (.int (0 + (i : Int)) u)) Q E s := by
  refine pow_int_small (by omega) (by omega) (by decide) ?_
  rw [show (0 + (i : Int)).toNat = i from by omega]
  exact h
theorem div3 {i : Nat} {x : Int} {t u : Tok} {Q : Value → Shared → Prop} (hi : i < 13) (h : Q (.int (x / 3 ^ i) s.toks) { s with toks := s.toks + 1 }) : wpAny (model prog w) A (binaryOp .FloorDiv (.int x t) (.int (3 ^ i) u)) Q E s := by
  refine floordiv_int (pow_ok i hi).1 ?_ (.inl (PyProof.noPylong_small (pow_ok i hi).2))
  rw [Int.fdiv_eq_ediv_of_nonneg x (Int.pow_nonneg (by decide))]
  exact h
theorem div13 {x : Int} {t u : Tok} {Q : Value → Shared → Prop} (h : Q (.int (x / 13) s.toks) { s with toks := s.toks + 1 }) : wpAny (model prog w) A (binaryOp .FloorDiv (.int x t) (.int 13 u)) Q E s := by
  refine floordiv_int (by decide) ?_ (.inl (PyProof.noPylong_small (by decide)))
  rw [Int.fdiv_eq_ediv_of_nonneg x (by decide)]
  exact h
theorem item_abc (z : Int) : Txt.item (Str.ofString "abc") (z.fmod 3) = ⟨#[97 + (z % 3).toNat]⟩ := by
  rw [Int.fmod_eq_emod_of_nonneg z (by decide)]
  have h0 := Int.emod_nonneg z (by decide : (3 : Int) ≠ 0)
  have h1 := Int.emod_lt_of_pos z (by decide : (0 : Int) < 3)
  have h2 : z % 3 = 0 ∨ z % 3 = 1 ∨ z % 3 = 2 := by omega
  rcases h2 with h | h | h <;> rw [h] <;> decide +kernel
end
section
variable {prog : Program} {w : World} {A : Around} {E : Value → Shared → Prop} {s : Shared}
theorem sub_abc {value slice : PySem.Expr} {z : Int} {t u : Tok} {Q : Value → Shared → Prop} (h : Q (.str ⟨#[97 + (z % 3).toNat]⟩ s.toks) { s with toks := s.toks + 1 })
    (hs : subscripted slice false (.str (Str.ofString "abc") t) (.int (z.fmod 3) u) = operate [.str (Str.ofString "abc") t, .int (z.fmod 3) u] (getItem (.str (Str.ofString "abc") t) (.int (z.fmod 3) u)))
    (ht : ∀ r, letTemporaryGo value (.str (Str.ofString "abc") t) r = pure ()) :
    wpAny (model prog w) A (subscriptTail value slice (.str (Str.ofString "abc") t) (.int (z.fmod 3) u)) Q E s :=
  item_str_fmod (by decide) (by decide +kernel) (by decide +kernel) (fun _ => by rw [item_abc]; exact h) hs ht
end
theorem wor_sp (w : World) {p : Program} {loose : List PySem.Str} (mean mg mb) (dp un : Nat) (fr : Option (List Env)) (gd : Option (List Code)) (s : Shared) (x : Int) (t1 : Tok) (Q : Value → Shared → Prop) (E : Value → Shared → Prop)
   (hA : dp + 5 < recursionLimit) (X : (hdT.heap_1 w.params).In s.heap)
   (T : Top p loose mean mg mb s.heap) (hret : ∀ h' tk' t, s.heap.StaysIn h' → s.heap.objs.size ≤ h'.objs.size → Q (.str (S (wordOf x)) t) ⟨h', s.gens, s.drawn, tk', s.os⟩) :
   wpAny (model Challenge.rw_pe0052_01.row.prog w) { handled := none, depth := dp, frames := fr, guards := gd, units := un } (call (.ref 42) [.int x t1]) Q E s := by
  w_on
  revert X hret; k_fill; intro X hret
  k_dflt (refine' enter_defC (binds := [(Str.ofString "x", .int x t1)]) X T.nolimit ?k6 ?k7 ?k8 ?k9 ?kB ?kD ?_ ?c2 ?c3 ?c4; (case k6 => k_is); (case k7 => k_is); (case k8 => exact Nat.lt_of_le_of_lt (Nat.le_add_right dp 5) hA); (case k9 => exact BindsTo.of_eq rfl); (case kB => exact rfl); (case kD => decide +kernel); (case c2 => exact rfl); (case c3 => exact rfl); (case c4 => exact rfl); k_whole)
  intro L' h₁ tk' cells' F' N' Y'
  obtain ⟨o', hE', d1'⟩ := CellsAre.one Y'
  subst hE'
  iterate 18 (first | (k_unfold; (try dsimp only)) | (k_end; wrow_close) | walk1 | (dsimp only; walk1) | (leave1; walk_say "STEP leave1"; try dsimp only) | fail "no step")
  rename Fr _ _ _ _ => F1
  rename News _ _ _ _ => N1
  rename IsRange _ _ _ _ _ _ _ _ => R1
  have b0 : 0 ≤ x % 13 := Int.emod_nonneg _ (by decide)
  have b1 : x % 13 < 13 := Int.emod_lt_of_pos _ (by decide)
  rw [Int.fmod_eq_emod_of_nonneg x (by decide : (0 : Int) ≤ 13)] at R1
  refine LCg.CompSrc.range (n := (x % 13).toNat) rfl F1 N1 R1 ?hsm ?hn ?hsz fun g => ?_
  case hsm => exact PySem.small_one (by omega) (by omega) (by omega) (by omega)
  case hn => rw [rangeSize_nat]; simp
  case hsz => rw [sizeLine_eq]; omega
  refine comp_rest (fun i y _ => ∃ t, y = .str ⟨#[letOf x i]⟩ t) (fun _ _ _ _ h => h) (fun _ _ h => h) _ _ trivial ?_ ?_
  · intro i v C oC m₂ h tk news more E' hi hP hoC hm₂ hC F₂ N₂ hCL hoff hin _
    obtain ⟨t, rfl⟩ := hP
    have N₃ : News s.heap L' h [(C, oC), (L' + 1, o')] := fun p hp => by
      rcases List.mem_cons.mp hp with rfl | hp
      · exact N₂ _ (List.mem_append_right _ (.head _))
      · exact N₂ _ (List.mem_append_right _ (.tail _ (hin p hp)))
    have hC8 : C ≠ L' + 1 := fun q => hoff _ (hin _ (.head _)) q.symm
    clear N₂ N1 F1 R1 hoff
    have hi13 : i < 13 := by omega
    iterate 10 (first | (k_unfold; (try dsimp only)) | (k_end; wrow_close) | walk1 | (dsimp only; walk1) | (leave1; walk_say "STEP leave1"; try dsimp only) | fail "no step")
    refine name_comp (N₃ _ (.head _)).1 hoC hm₂ ?_ (by rfl) (by rfl)
    refine pow3 hi13 ?_
    refine div3 hi13 ?_
    (first | (k_unfold; (try dsimp only)) | (k_end; wrow_close) | walk1 | (dsimp only; walk1) | (leave1; walk_say "STEP leave1"; try dsimp only) | fail "no step")
    refine mod_int' (by decide) ?_
    refine sub_abc ?_ (by with_unfolding_all rfl) (by intro _; with_unfolding_all rfl)
    dsimp only
    exact ⟨_, _, [], rfl, fun _ _ e => e, List.forall_mem_nil _, _, rfl⟩
  · intro ys news hl hy hin _ D h tk F₂ N₂ off
    obtain ⟨l, rfl, el⟩ := strs_of ys _ hy
    rw [hl] at el
    clear N1 F1 R1
    iterate 1 (first | (k_unfold; (try dsimp only)) | (k_end; wrow_close) | walk1 | (dsimp only; walk1) | (leave1; walk_say "STEP leave1"; try dsimp only) | fail "no step")
    have el2 : l.map (·.1) = (wordOf x).map fun c => (⟨#[c]⟩ : PySem.Str) := by rw [el]; unfold wordOf; rw [List.map_map]; rfl
    refine join_eq (S (wordOf x)) (News.isList N₂ (.head _)) el2 (joinOk_single (wordOf x) (by unfold wordOf; rw [List.length_map, List.length_range]; omega)) (join_single (wordOf x)) fun t' k' => ?_
    k_steps
    exact hret _ _ _ F₂.keep (fr_size F₂)
end Mine
end
section
open PySem PySem.W PyProof.Rows PySem.Calls
set_option maxRecDepth 100000
namespace Mine
noncomputable abbrev LS := List (PySem.Str × PySem.Str) × List PySem.Str
noncomputable def othr (row : PySem.Str) (k : Nat) : PySem.Str := Txt.slice row none (some (k : Int)) ++ Txt.item row ((k : Int) + 1) ++ Txt.item row (k : Int) ++ Txt.slice row (some ((k : Int) + 2)) none
noncomputable def ltrK (k : Nat) : PySem.Str := Txt.item (Str.ofString "abc") (k : Int)
noncomputable def lstep (row : PySem.Str) (z : LS) (k : Nat) : LS :=
  if (z.1.lookup (othr row k)).isSome then z else (z.1 ++ [(othr row k, (z.1.lookup row).getD (Str.ofString "") ++ ltrK k)], z.2 ++ [othr row k])
noncomputable def lturn (z : LS) (turn : Nat) : LS := (List.range 3).foldl (lstep (z.2.getD turn (Str.ofString ""))) z
noncomputable def ls0 : LS := ([(Str.ofString "0123", Str.ofString "")], [Str.ofString "0123"])
noncomputable def lsAt (i : Nat) : LS := (List.range i).foldl lturn ls0
noncomputable def lsIn (i j : Nat) : LS := (List.range j).foldl (lstep ((lsAt i).2.getD i (Str.ofString ""))) (lsAt i)
noncomputable def okR (row : PySem.Str) (z : LS) : Bool := Nat.ble z.2.length 40 && (Nat.ble z.1.length 40 && (Nat.beq row.length 4 && (match z.1.lookup row with | some v => Nat.ble v.length 40 | none => false)))
set_option maxHeartbeats 4000000
noncomputable def chk : Nat → Nat → LS → Bool
  | 0, _, _ => true
  | n + 1, i, z => (match z.2[i]? with
     | some row => okR row z && (okR row (lstep row z 0) && (okR row (lstep row (lstep row z 0) 1) && chk n (i + 1) (lstep row (lstep row (lstep row z 0) 1) 2)))
     | none => false)
theorem chk24 : chk 24 0 ls0 = true := by decide +kernel
theorem lsIn_zero (i : Nat) : lsIn i 0 = lsAt i := by
  unfold lsIn
  rw [List.range_zero, List.foldl_nil]
theorem lsIn_succ {i j : Nat} {row : PySem.Str} (h : (lsAt i).2[i]? = some row) : lsIn i (j + 1) = lstep row (lsIn i j) j := by
  unfold lsIn
  rw [List.range_succ, List.foldl_append]
  have e : (lsAt i).2.getD i (Str.ofString "") = row := by rw [List.getD_eq_getElem?_getD, h]; rfl
  rw [e, List.foldl_cons, List.foldl_nil]
theorem lsAt_succ {i : Nat} : lsAt (i + 1) = lsIn i 3 := by
  have h : lsAt (i + 1) = lturn (lsAt i) i := by
    unfold lsAt
    rw [List.range_succ, List.foldl_append, List.foldl_cons, List.foldl_nil]
  rw [h]
  unfold lturn lsIn
  exact Eq.refl _
theorem chk_at : ∀ n i, chk n i (lsAt i) = true → ∀ k, k < n → ∃ row, (lsAt (i + k)).2[i + k]? = some row ∧ okR row (lsIn (i + k) 0) = true ∧ okR row (lsIn (i + k) 1) = true ∧ okR row (lsIn (i + k) 2) = true
  | 0, _, _, k, hk => absurd hk (Nat.not_lt_zero k)
  | n + 1, i, h, k, hk => by
    unfold chk at h
    split at h
    · rename_i row hrow
      rw [Bool.and_eq_true, Bool.and_eq_true, Bool.and_eq_true] at h
      have e1 : lsIn i 1 = lstep row (lsAt i) 0 := by rw [lsIn_succ hrow, lsIn_zero]
      have e2 : lsIn i 2 = lstep row (lstep row (lsAt i) 0) 1 := by rw [lsIn_succ hrow, e1]
      have e3 : lsAt (i + 1) = lstep row (lstep row (lstep row (lsAt i) 0) 1) 2 := by rw [lsAt_succ, lsIn_succ hrow, e2]
      cases k with
      | zero =>
        refine ⟨row, hrow, ?_, ?_, ?_⟩
        · rw [Nat.add_zero, lsIn_zero]; exact h.1
        · rw [Nat.add_zero, e1]; exact h.2.1
        · rw [Nat.add_zero, e2]; exact h.2.2.1
      | succ k =>
        rw [← e3] at h
        have z := chk_at n (i + 1) h.2.2.2 k (by omega)
        rw [show i + (k + 1) = i + 1 + k by omega]
        exact z
    · cases h
theorem ls_all (i : Nat) (hi : i < 24) : ∃ row, (lsAt i).2[i]? = some row ∧ okR row (lsIn i 0) = true ∧ okR row (lsIn i 1) = true ∧ okR row (lsIn i 2) = true := by
  have z := chk_at 24 0 (by rw [show lsAt 0 = ls0 from by unfold lsAt; rw [List.range_zero, List.foldl_nil]]; exact chk24) i hi
  rw [Nat.zero_add] at z
  exact z
theorem okR_of {row : PySem.Str} {z : LS} (h : okR row z = true) : z.2.length ≤ 40 ∧ z.1.length ≤ 40 ∧ row.length = 4 ∧ ∃ v, z.1.lookup row = some v ∧ v.length ≤ 40 := by
  unfold okR at h
  rw [Bool.and_eq_true, Bool.and_eq_true, Bool.and_eq_true] at h
  refine ⟨Nat.le_of_ble_eq_true h.1, Nat.le_of_ble_eq_true h.2.1, Nat.eq_of_beq_eq_true h.2.2.1, ?_⟩
  have h4 := h.2.2.2
  split at h4
  · rename_i v hv; exact ⟨v, hv, Nat.le_of_ble_eq_true h4⟩
  · cases h4
theorem ls_row (i : Nat) (hi : i < 24) : ∃ row, (lsAt i).2[i]? = some row ∧ row.length = 4 := by
  obtain ⟨row, h, h0, _, _⟩ := ls_all i hi
  exact ⟨row, h, (okR_of h0).2.2.1⟩
theorem ls_ok (i j : Nat) (hi : i < 24) (hj : j < 3) (row : PySem.Str) (hrow : (lsAt i).2[i]? = some row) : okR row (lsIn i j) = true := by
  obtain ⟨row', h, h0, h1, h2⟩ := ls_all i hi
  rw [hrow] at h
  cases h
  rcases (by omega : j = 0 ∨ j = 1 ∨ j = 2) with rfl | rfl | rfl
  · exact h0
  · exact h1
  · exact h2
theorem ls_val (i j : Nat) (hi : i < 24) (hj : j < 3) (row : PySem.Str) (hrow : (lsAt i).2[i]? = some row) : ∃ v, (lsIn i j).1.lookup row = some v ∧ v.length ≤ 40 := (okR_of (ls_ok i j hi hj row hrow)).2.2.2
theorem ls_len (i j : Nat) (hi : i < 24) (hj : j < 3) : (lsIn i j).1.length ≤ 40 ∧ (lsIn i j).2.length ≤ 40 := by
  obtain ⟨row, hrow, _⟩ := ls_all i hi
  have z := okR_of (ls_ok i j hi hj row hrow)
  exact ⟨z.2.1, z.1⟩
noncomputable def keyOf (q : R4) : PySem.Str := Str.ofString (toString q.1) ++ Str.ofString (toString q.2.1) ++ Str.ofString (toString q.2.2.1) ++ Str.ofString (toString q.2.2.2)
theorem least_nf : ∀ v ∈ nf24, (lsAt 24).1.lookup (keyOf (v.foldl st (0, 1, 2, 3))) = some (S v) := by decide +kernel
end Mine
end
section
open PySem PySem.W PyProof.Rows PySem.Calls
set_option maxRecDepth 100000
set_option maxHeartbeats 8000000
namespace Mine
/-- a table's pairs are texts -/
inductive KVs : List (PySem.Str × Value) → List (PySem.Str × PySem.Str) → Prop
  | nil : KVs [] []
  | cons (k v : PySem.Str) (t : Tok) {a b} : KVs a b → KVs ((k, .str v t) :: a) ((k, v) :: b)
theorem KVs.at : ∀ {a b}, KVs a b → ∀ k : PySem.Str, (b.lookup k = none ∧ valueAt a k = none) ∨ ∃ v t, b.lookup k = some v ∧ valueAt a k = some (.str v t)
  | _, _, .nil, k => .inl ⟨rfl, rfl⟩
  | _, _, .cons (a := a) (b := b) k' v t h, k => by
    by_cases e : k = k'
    · subst e
      exact .inr ⟨v, t, by simp [List.lookup_cons], by simp [valueAt]⟩
    · have e2 : (k == k') = false := beq_eq_false_iff_ne.mpr e
      have h1 : ((k', v) :: b).lookup k = b.lookup k := by rw [List.lookup_cons, e2]
      have h2 : valueAt ((k', Value.str v t) :: a) k = valueAt a k := by
        unfold valueAt
        rw [List.find?_cons_of_neg (by simpa using fun q => e q.symm)]
      rw [h1, h2]
      exact h.at k
theorem KVs.snoc : ∀ {a b}, KVs a b → ∀ (k v : PySem.Str) (t : Tok), KVs (a ++ [(k, .str v t)]) (b ++ [(k, v)])
  | _, _, .nil, k, v, t => .cons k v t .nil
  | _, _, .cons k' v' t' h, k, v, t => .cons k' v' t' (h.snoc k v t)
theorem KVs.len : ∀ {a b}, KVs a b → a.length = b.length
  | _, _, .nil => rfl
  | _, _, .cons _ _ _ h => by simp [h.len]
theorem stored_new {a : List (PySem.Str × Value)} {k : PySem.Str} {v : Value} (h : valueAt a k = none) : stored a k v = a ++ [(k, v)] := by
  unfold valueAt at h
  rw [Option.map_eq_none_iff, List.find?_eq_none] at h
  unfold stored
  rw [if_neg]
  intro q
  rw [List.any_eq_true] at q
  obtain ⟨p, hp, hq⟩ := q
  exact h p hp hq
inductive SVs : List Value → List PySem.Str → Prop
  | nil : SVs [] []
  | cons (v : PySem.Str) (t : Tok) {a b} : SVs a b → SVs (.str v t :: a) (v :: b)
theorem SVs.snoc : ∀ {a b}, SVs a b → ∀ (v : PySem.Str) (t : Tok), SVs (a ++ [.str v t]) (b ++ [v])
  | _, _, .nil, v, t => .cons v t .nil
  | _, _, .cons v' t' h, v, t => .cons v' t' (h.snoc v t)
theorem SVs.len : ∀ {a b}, SVs a b → a.length = b.length
  | _, _, .nil => rfl
  | _, _, .cons _ _ h => by simp [h.len]
theorem SVs.at : ∀ {a b}, SVs a b → ∀ (i : Nat) (v : PySem.Str), b[i]? = some v → ∃ t, a[i]? = some (.str v t)
  | _, _, .nil, i, v, h => by simp at h
  | _, _, .cons v' t' _, 0, v, h => by simp at h; subst h; exact ⟨t', rfl⟩
  | _, _, .cons _ _ h, i + 1, v, e => h.at i v (by simpa using e)
section
variable {h₀ h h' : Heap} {L : Addr} {m : PySem.Str → Option Value}
theorem upd_snd {l d : Addr} {X o o' : Obj} {rest : List (Addr × Obj)} (F : Fr h₀ L h m) (N : News h₀ L h ((l, X) :: (d, o) :: rest)) (hs : Heap.SameBut d h h') (e : h'.get? d = some o') (hld : l ≠ d) (hr : ∀ p ∈ rest, p.1 ≠ d) :
    Fr h₀ L h' m ∧ News h₀ L h' ((l, X) :: (d, o') :: rest) := by
  have hd := N _ (.tail _ (.head _))
  refine ⟨F.change hs hd.2.1 hd.2.2, fun p hp => ?_⟩
  rcases List.mem_cons.mp hp with rfl | hp
  · exact ⟨hs.extBut _ _ hld (N _ (.head _)).1, (N _ (.head _)).2⟩
  · rcases List.mem_cons.mp hp with rfl | hp
    · exact ⟨e, hd.2⟩
    · have z := N p (.tail _ (.tail _ hp))
      exact ⟨hs.extBut _ _ (hr p hp) z.1, z.2⟩
theorem upd_fst {l : Addr} {X X' : Obj} {rest : List (Addr × Obj)} (F : Fr h₀ L h m) (N : News h₀ L h ((l, X) :: rest)) (hs : Heap.SameBut l h h') (e : h'.get? l = some X') (hr : ∀ p ∈ rest, p.1 ≠ l) :
    Fr h₀ L h' m ∧ News h₀ L h' ((l, X') :: rest) := by
  have hd := N _ (.head _)
  refine ⟨F.change hs hd.2.1 hd.2.2, fun p hp => ?_⟩
  rcases List.mem_cons.mp hp with rfl | hp
  · exact ⟨e, hd.2⟩
  · have z := N p (.tail _ hp)
    exact ⟨hs.extBut _ _ (hr p hp) z.1, z.2⟩
end
section
variable {prog : Program} {w : World} {A : Around} {E : Value → Shared → Prop} {s : Shared} {h₀ : Heap} {L : Addr} {news : List (Addr × Obj)}
theorem list_item {value slice : PySem.Expr} {l : Addr} {rv : List Value} {n i : Nat} {u : Tok} {v : Value} {Q : Value → Shared → Prop} (N : News h₀ L s.heap news) (hm : (l, W.listOf rv.toArray n) ∈ news) (hi : i < 1000) (hx : rv[i]? = some v) (h : Q v s)
    (hs : subscripted slice false (.ref l) (.int (i : Int) u) = operate [.ref l, .int (i : Int) u] (getItem (.ref l) (.int (i : Int) u)) := by with_unfolding_all rfl) :
    wpAny (model prog w) A (subscriptTail value slice (.ref l) (.int (i : Int) u)) Q E s :=
  have hl : s.heap.IsList l rv.toArray := N.isList hm
  tail_any hl.typeIs slot_list_getitem.lookup (wpAny_getItem_list hl (by omega) (by omega) (by simpa using hx) h) hs
end
theorem lea_start {h₀ h : Heap} {L D l d : Addr} {oD o : Obj} {x : PySem.Str} {t : Tok} (N : News h₀ L h [(D, oD), (l, W.listOf #[.str x t] 0), (d, o)]) : ∃ t', News h₀ L h [(l, W.listOf #[.str x t'] 0), (d, o)] := ⟨t, fun p hp => N p (.tail _ hp)⟩
theorem dict_tok {prog : Program} {w : World} {o : Obj} {x y : PySem.Str} {t : Tok} (D : o.IsDictOf (PySem.strKind prog w) [(x, .str y t)]) : ∃ t', o.IsDictOf (PySem.strKind prog w) [(x, .str y t')] := ⟨t, D⟩
theorem inv_two {h₀ h' : Heap} {L l d : Addr} {X o : Obj} {J : (PySem.Str → Option Value) → List (Addr × Obj) → Prop} {own own2 : List (Addr × Obj)} {m' : PySem.Str → Option Value} {adr : List Addr} {s₁ : Shared} {tk : Nat} (F : Fr h₀ L h' m') (N : News h₀ L h' ((l, X) :: (d, o) :: (own ++ own2)))
    (hj : J m' ([(l, X), (d, o)] ++ own)) (ha : l :: d :: own.map (·.1) = adr) : InvEndN h₀ L J own2 adr s₁ { s₁ with heap := h', toks := tk } :=
  InvEndN.intro (nx := [(l, X), (d, o)] ++ own) F N hj ha (fun p hp => by
    rcases List.mem_append.mp hp with hp | hp
    · rcases List.mem_cons.mp hp with rfl | hp
      · exact .head _
      · rw [List.mem_singleton.mp hp]; exact .tail _ (.head _)
    · exact .tail _ (.tail _ (List.mem_append_left _ hp))) (fun p hp => .tail _ (.tail _ (List.mem_append_right _ hp)))
/-- between two turns of the outer loop -/
noncomputable def leaJ (w : World) (d l : Addr) (i : Nat) (m : PySem.Str → Option Value) (news : List (Addr × Obj)) : Prop :=
  ∃ o kvs rv n, ∃ f : PySem.Str → Option Value, m = (fun y => if y = Str.ofString "least" then some (.ref d) else if y = Str.ofString "rows" then some (.ref l) else f y) ∧ news = [(l, W.listOf rv.toArray n), (d, o)] ∧
    o.IsDictOf (PySem.strKind Challenge.rw_pe0052_01.row.prog w) kvs ∧ KVs kvs (lsAt i).1 ∧ SVs rv (lsAt i).2
/-- between two turns of the inner loop -/
noncomputable def leaK (w : World) (d l : Addr) (i : Nat) (row : PySem.Str) (own : List (Addr × Obj)) (j : Nat) (m : PySem.Str → Option Value) (news : List (Addr × Obj)) : Prop :=
  ∃ o kvs rv n tr, ∃ f : PySem.Str → Option Value, m = (fun y => if y = Str.ofString "least" then some (.ref d) else if y = Str.ofString "rows" then some (.ref l) else if y = Str.ofString "row" then some (.str row tr) else f y) ∧ news = [(l, W.listOf rv.toArray n), (d, o)] ++ own ∧
    o.IsDictOf (PySem.strKind Challenge.rw_pe0052_01.row.prog w) kvs ∧ KVs kvs (lsIn i j).1 ∧ SVs rv (lsIn i j).2
theorem map_at3 {m : PySem.Str → Option Value} (x y x3 : PySem.Str) {u v v3 : Value} (hx : m x = some v) (hy : m y = some u) (h3 : m x3 = some v3) : m = fun z => if z = x then some v else if z = y then some u else if z = x3 then some v3 else m z := funext fun z => by
  by_cases e : z = x
  · rw [if_pos e, e, hx]
  · rw [if_neg e]
    by_cases e2 : z = y
    · rw [if_pos e2, e2, hy]
    · rw [if_neg e2]
      by_cases e3 : z = x3
      · rw [if_pos e3, e3, h3]
      · rw [if_neg e3]
theorem lea_sp (w : World) {p : Program} {loose : List PySem.Str} (mean mg mb) (dp un : Nat) (fr : Option (List Env)) (gd : Option (List Code)) (s : Shared) (Q : Value → Shared → Prop) (E : Value → Shared → Prop)
   (hA : dp + 5 < recursionLimit) (X : (hdT.heap_1 w.params).In s.heap)
   (T : Top p loose mean mg mb s.heap) (hret : ∀ h' tk' d o kvs, s.heap.StaysIn h' → s.heap.objs.size ≤ h'.objs.size → h'.get? d = some o → s.heap.get? d = none → o.IsDictOf (PySem.strKind Challenge.rw_pe0052_01.row.prog w) kvs → KVs kvs (lsAt 24).1 → (d == sysModules) = false → Q (.ref d) ⟨h', s.gens, s.drawn, tk', s.os⟩) :
   wpAny (model Challenge.rw_pe0052_01.row.prog w) { handled := none, depth := dp, frames := fr, guards := gd, units := un } (call (.ref 70) []) Q E s := by
  w_on
  revert X hret; k_fill; intro X hret
  k_dflt (refine' enter_def (binds := []) X T.nolimit ?k6 ?k7 ?k8 ?k9 ?kB ?_ ?c1 ?c2 ?c3 ?c4; (case k6 => k_is); (case k7 => k_is); (case k8 => exact Nat.lt_of_le_of_lt (Nat.le_add_right dp 5) hA); (case k9 => exact BindsTo.of_eq rfl); (case kB => exact rfl); (case c1 => decide); (case c2 => exact rfl); (case c3 => exact rfl); (case c4 => exact rfl); k_whole)
  intro L' h₁ F' N'
  iterate 28 (first | (k_unfold; (try dsimp only)) | (k_end; wrow_close) | walk1 | (dsimp only; walk1) | (leave1; walk_say "STEP leave1"; try dsimp only) | fail "no step")
  rename Fr _ _ _ _ => F1
  rename News _ _ _ _ => N1
  rename Obj.IsDictOf _ _ _ => D1
  rename (_ == _) = false => lo
  rename h₁.objs.size < _ => hlt
  rename PyProof.V.FlatPairs _ _ _ => hf9
  clear hf9
  generalize h₁.objs.size = d at N1 F1 lo hlt
  obtain ⟨t0, N2⟩ := lea_start N1
  obtain ⟨t1, D2⟩ := dict_tok D1
  clear N1 D1
  refine For_invVF F1 rfl rfl ?_ (hE := by passes_own)
  iterate 7 (first | (k_unfold; (try dsimp only)) | (k_end; wrow_close) | walk1 | (dsimp only; walk1) | (leave1; walk_say "STEP leave1"; try dsimp only) | fail "no step")
  rename Fr _ _ _ _ => F3
  rename IsRange _ _ _ _ _ _ _ _ => R3
  rename News _ _ _ _ => N3
  dsimp only
  refine iter_rangeN (n := 24) (leaJ w d _) rfl R3 (by decide +kernel) (by decide +kernel) F3 N3 ⟨_, _, _, _, _, map_at2 (Str.ofString "least") (Str.ofString "rows") (by rfl) (by rfl), rfl, D2, .cons _ _ _ .nil, .cons _ _ .nil⟩ ?_ ?_
  · intro i u m₁ news₁ h tk own hi ha ho hJ F₁ N₁
    obtain ⟨o, kvs, rv, n, f, rfl, rfl, hd, hk, hr⟩ := hJ
    have ho' : OwnOff own [_, d] := ho
    clear F3 N3 R3 D2 ho ha
    have F₂ : Fr s.heap L' h _ := F₁
    have N₂ : News s.heap L' h ([(_, W.listOf rv.toArray n), (d, o)] ++ own) := N₁
    clear F₁ N₁
    obtain ⟨row, hrow, hlen⟩ := ls_row i hi
    obtain ⟨tr, hx⟩ := hr.at i row hrow
    have hk0 : KVs kvs (lsIn i 0).1 := by rw [lsIn_zero]; exact hk
    have hr0 : SVs rv (lsIn i 0).2 := by rw [lsIn_zero]; exact hr
    clear hk hr
    iterate 5 (first | (k_unfold; (try dsimp only)) | (k_end; wrow_close) | walk1 | (dsimp only; walk1) | (leave1; walk_say "STEP leave1"; try dsimp only) | fail "no step")
    refine list_item N₂ (.head _) (by omega) hx ?_
    (first | (k_unfold; (try dsimp only)) | (k_end; wrow_close) | walk1 | (dsimp only; walk1) | (leave1; walk_say "STEP leave1"; try dsimp only) | fail "no step")
    (first | (k_unfold; (try dsimp only)) | (k_end; wrow_close) | walk1 | (dsimp only; walk1) | (leave1; walk_say "STEP leave1"; try dsimp only) | fail "no step")
    rename Fr _ _ _ _ => F5
    rename News _ _ _ _ => N5
    refine For_invVF F5 rfl rfl ?_ (hE := by passes_own)
    iterate 7 (first | (k_unfold; (try dsimp only)) | (k_end; wrow_close) | walk1 | (dsimp only; walk1) | (leave1; walk_say "STEP leave1"; try dsimp only) | fail "no step")
    rename Fr _ _ _ _ => F6
    rename News _ _ _ _ => N6
    rename IsRange _ _ _ _ _ _ _ _ => R6
    dsimp only
    refine iter_rangeN (n := 3) (leaK w d _ i row own) rfl R6 (by decide +kernel) (by decide +kernel) F6 N6 ⟨_, _, _, _, _, _, map_at3 (Str.ofString "least") (Str.ofString "rows") (Str.ofString "row") (by rfl) (by rfl) (by rfl), rfl, hd, hk0, hr0⟩ ?_ ?_
    · intro j u₃ m₃ news₃ h₃ tk₃ own₃ hj ha₃ ho₃ hJ₃ F₃ N₃
      obtain ⟨o₃, kvs₃, rv₃, n₃, tr₃, f₃, rfl, rfl, hd₃, hk₃, hr₃⟩ := hJ₃
      have F₄ : Fr s.heap L' h₃ _ := F₃
      have N₄ : News s.heap L' h₃ ((_, W.listOf rv₃.toArray n₃) :: (d, o₃) :: (own ++ own₃)) := N₃
      clear F₃ N₃ F6 N6 R6 ha₃
      obtain ⟨vr, hvr⟩ := ls_val i j hi hj row hrow
      iterate 44 (first | (k_unfold; (try dsimp only)) | (k_end; wrow_close) | walk1 | (dsimp only; walk1) | (leave1; walk_say "STEP leave1"; try dsimp only) | fail "no step")
      rename Fr _ _ _ _ => F5
      rename News _ _ _ _ => N5
      rcases hk₃.at (othr row j) with ⟨h1, h2⟩ | ⟨v, t, h1, h2⟩
      · refine kdg_notin (knd := PySem.strKind _ _) (k := othr row j) N5 (.tail _ (.head _)) hd₃ lo (strKind_is _ _ _ _) false (by rw [h2]; rfl) ?_
        iterate 9 (first | (k_unfold; (try dsimp only)) | (k_end; wrow_close) | walk1 | (dsimp only; walk1) | (leave1; walk_say "STEP leave1"; try dsimp only) | fail "no step")
        obtain ⟨vr', tv, h3, h4⟩ : ∃ vr' tv, (lsIn i j).1.lookup row = some vr' ∧ valueAt kvs₃ row = some (.str vr' tv) := by
          rcases hk₃.at row with ⟨h3, _⟩ | h3
          · rw [hvr.1] at h3; cases h3
          · exact h3
        rw [hvr.1] at h3
        cases h3
        have hvl := hvr.2
        refine kda_item (knd := PySem.strKind _ _) N5 (.tail _ (.head _)) hd₃ (strKind_is _ _ _ _) h4 ?_
        iterate 7 (first | (k_unfold; (try dsimp only)) | (k_end; wrow_close) | walk1 | (dsimp only; walk1) | (leave1; walk_say "STEP leave1"; try dsimp only) | fail "no step")
        obtain ⟨hz1, hz2⟩ := ls_len i j hi hj
        have hld := Nat.ne_of_gt hlt
        have hod : ∀ p ∈ own ++ own₃, p.1 ≠ d := fun p hp => by
          rcases List.mem_append.mp hp with hp | hp
          · exact ho' p hp d (.tail _ (.head _))
          · exact ho₃ p hp d (.tail _ (.head _))
        have hol := fun (p : Addr × Obj) (hp : p ∈ own ++ own₃) => (List.mem_append.mp hp).elim (fun hp => ho' p hp _ (List.mem_cons_self ..)) (fun hp => ho₃ p hp _ (List.mem_cons_self ..))
        refine wpAny_setItem_pairs (knd := PySem.strKind _ _) (k := othr row j) (strKind_is _ _ _ _) (kda_dict N5 (.tail _ (.head _)) hd₃) (fun h8 hD hs => ?_) (by rw [hk₃.len, sizeLine_eq]; omega)
        obtain ⟨o8, ho8, hd8⟩ := Heap.dictOf_iff.mp hD
        obtain ⟨F8, N8⟩ := upd_snd F5 N5 hs ho8 hld hod
        rw [stored_new h2] at hd8
        clear F5 N5 hd₃ hD hs
        iterate 9 (first | (k_unfold; (try dsimp only)) | (k_end; wrow_close) | walk1 | (dsimp only; walk1) | (leave1; walk_say "STEP leave1"; try dsimp only) | fail "no step")
        have hl8 := (N8 _ (.head _)).1
        refine wpAny_list_append_plain (items := rv₃.toArray) (by exact ⟨n₃, hl8⟩) (fun h9 hP hs9 => ?_) (by rw [List.size_toArray, hr₃.len, sizeLine_eq]; omega)
        obtain ⟨n9, hl9⟩ := hP
        rw [List.push_toArray] at hl9
        obtain ⟨F9, N9⟩ := upd_fst F8 N8 hs9 hl9 (fun p hp => by
          rcases List.mem_cons.mp hp with rfl | hp
          · exact hld.symm
          · exact hol p hp)
        clear F8 N8 hs9
        k_steps
        have e9 : lsIn i (j + 1) = ((lsIn i j).1 ++ [(othr row j, vr ++ ltrK j)], (lsIn i j).2 ++ [othr row j]) := by
          rw [lsIn_succ hrow]; unfold lstep; rw [if_neg (by rw [h1]; decide), hvr.1]; rfl
        have hk9 := hk₃.snoc (othr row j) (vr ++ ltrK j)
        have hr9 := hr₃.snoc (othr row j)
        rw [show (lsIn i j).1 ++ [(othr row j, vr ++ ltrK j)] = (lsIn i (j + 1)).1 by rw [e9]] at hk9
        rw [show (lsIn i j).2 ++ [othr row j] = (lsIn i (j + 1)).2 by rw [e9]] at hr9
        exact inv_two F9 N9 ⟨o8, _, _, n9, _, _, map_at3 (Str.ofString "least") (Str.ofString "rows") (Str.ofString "row") (by rfl) (by rfl) (by rfl), rfl, hd8, hk9 _, hr9 _⟩ rfl
      · refine kdg_notin (knd := PySem.strKind _ _) (k := othr row j) N5 (.tail _ (.head _)) hd₃ lo (strKind_is _ _ _ _) true (by rw [h2]; rfl) ?_
        have e9 : lsIn i (j + 1) = lsIn i j := by rw [lsIn_succ hrow]; unfold lstep; rw [if_pos (by rw [h1]; rfl)]
        rw [← e9] at hk₃ hr₃
        k_steps
        exact InvEndN.intro (nx := [(_, W.listOf rv₃.toArray n₃), (d, o₃)] ++ own) F5 N5 ⟨o₃, kvs₃, rv₃, n₃, _, _, map_at3 (Str.ofString "least") (Str.ofString "rows") (Str.ofString "row") (by rfl) (by rfl) (by rfl), rfl, hd₃, hk₃, hr₃⟩ rfl
          (fun p hp => List.mem_append_left own₃ hp) (fun p hp => List.mem_append_right ([(_, _), (d, o₃)] ++ own) hp)
    · intro m₃ news₃ h₃ tk₃ hJ₃ F₃ N₃
      obtain ⟨o₃, kvs₃, rv₃, n₃, tr₃, f₃, rfl, rfl, hd₃, hk₃, hr₃⟩ := hJ₃
      clear F6 N6 R6
      k_steps
      have e9 := @lsAt_succ i
      rw [← e9] at hk₃ hr₃
      exact InvEndN.intro (nx := [(_, W.listOf rv₃.toArray n₃), (d, o₃)]) F₃ N₃ ⟨o₃, kvs₃, rv₃, n₃, _, map_at2 (Str.ofString "least") (Str.ofString "rows") (by rfl) (by rfl), rfl, hd₃, hk₃, hr₃⟩ rfl (fun p hp => List.mem_append_left _ hp) (fun p hp => List.mem_append_right _ hp)
  · intro m₁ news₁ h tk hJ F₁ N₁
    obtain ⟨o, kvs, rv, n, f, rfl, rfl, hd, hk, hr⟩ := hJ
    clear F3 N3 R3 D2
    k_steps
    exact hret _ _ _ _ _ F₁.keep (fr_size F₁) (N₁ _ (.tail _ (.head _))).1 (N₁ _ (.tail _ (.head _))).2.2 hd hk lo
end Mine
end
section
open PySem PySem.W PyProof.Rows PySem.Calls
set_option maxRecDepth 100000
namespace Mine
/-- a whole heap as a written part -/
noncomputable def fragH (h : Heap) : Frag := (List.range h.objs.size).filterMap fun a => (h.get? a).map fun o => (a, o)
theorem lookup_fm (g : Nat → Option Obj) : ∀ (l : List Nat) (a : Nat), (l.filterMap fun a => (g a).map fun o => (a, o)).lookup a = if a ∈ l then g a else none
  | [], a => by simp
  | b :: l, a => by
    rw [List.filterMap_cons]
    cases e : g b with
    | none =>
      simp only [Option.map_none]
      rw [lookup_fm g l a]
      by_cases hb : a = b
      · subst hb; simp [e]
      · simp [hb]
    | some o =>
      simp only [Option.map_some]
      rw [List.lookup_cons]
      by_cases hb : a = b
      · subst hb; simp [e]
      · rw [beq_eq_false_iff_ne.mpr hb]
        show List.lookup a (List.filterMap (fun a => Option.map (fun o => (a, o)) (g a)) l) = _
        rw [lookup_fm g l a]
        simp [hb]
theorem fragH_lookup (h : Heap) (a : Addr) : (fragH h).lookup a = h.get? a := by
  unfold fragH
  rw [lookup_fm]
  split
  · rfl
  · rename_i hm
    cases e : h.get? a with
    | none => rfl
    | some o => exact absurd (List.mem_range.mpr (Heap.lt_size e)) hm
theorem fragH_in (h : Heap) : (fragH h).In h := fun a o e => by rw [fragH_lookup] at e; exact e
/-- the class's facts over the whole heap as a written part -/
structure KFacts (w : World) (K : Frag) (k : KAd) : Prop where
  hC : K.lookup k.C = some (clsO { name := Str.ofString "K", bases := [.type "object"], mro := [.ref k.C, .type "object"], ns := k.ns, qualname := Str.ofString "cmp_to_key.<locals>.K", hasDict := false, slotNames := [Str.ofString "obj"] } #[some (.ref k.bT), none, some (.str (Str.ofString "K") k.t), some (.str (Str.ofString "cmp_to_key.<locals>.K") (k.tt 3)), some (.builtin "object.__new__"), some (.bool false)])
  hN : K.lookup k.ns = some (nsO (((bodyEs2 k.x k.tt k.sl k.fI k.fL k.fG k.fE k.fF k.fH k.st).push ⟨PyData.keyHash w.params (Str.ofString "obj"), .str (Str.ofString "obj") (k.tk + 1), .ref k.md⟩).push ⟨PyData.keyHash w.params (Str.ofString "__doc__"), .str (Str.ofString "__doc__") (k.tk + 2), .none⟩) 3)
  hM : K.lookup k.md = some { cls := .type "member_descriptor", data := .fields #[.str (Str.ofString "obj") k.tk, .ref k.C, .builtin "proto.slot", .builtin "proto.slot#set", .int 0 0] }
  hI : K.lookup k.fI = some (fnO (.func (mFd w.params 2 (Str.ofString "__init__") [] .none (.ref k.cI) k.pI)))
  hL : K.lookup k.fL = some (fnO (.func (mFd w.params 3 (Str.ofString "__lt__") [(Str.ofString "mycmp", k.cell)] (.ref k.ctL) (.ref k.cL) k.pL)))
theorem KAt.facts {w : World} {h : Heap} {k : KAd} (M : KAt w h k) : KFacts w (fragH h) k :=
  ⟨by rw [fragH_lookup]; exact M.cls _ (.tail _ (.head _)), by rw [fragH_lookup]; exact M.cls _ (.head _), by rw [fragH_lookup]; exact M.cls _ (.tail _ (.tail _ (.head _))), by rw [fragH_lookup]; exact M.fI, by rw [fragH_lookup]; exact M.fL⟩
section
variable {w : World} {K : Frag} {k : KAd}
noncomputable abbrev kEs (w : World) (k : KAd) : Array DictEntry := ((bodyEs2 k.x k.tt k.sl k.fI k.fL k.fG k.fE k.fF k.fH k.st).push ⟨PyData.keyHash w.params (Str.ofString "obj"), .str (Str.ofString "obj") (k.tk + 1), .ref k.md⟩).push ⟨PyData.keyHash w.params (Str.ofString "__doc__"), .str (Str.ofString "__doc__") (k.tk + 2), .none⟩
theorem KFacts.find (F : KFacts w K k) (name : PySem.Str) : findIn K (.ref k.C) name = (match (match (kEs w k).toList.find? (·.key.isStr name) with
      | some e => some (some e.val)
      | none => if (kEs w k).toList.any (·.refKey) then none else some none) with
    | some (some v) => some (some v)
    | some none => alongIn K name [.type "object"]
    | none => none) := by
  unfold findIn
  dsimp only
  rw [F.hC]
  show (match ownIn K name (.ref k.C) with | some (some v) => some (some v) | some none => alongIn K name [.type "object"] | none => none) = _
  unfold ownIn
  dsimp only
  rw [F.hC]
  show (match nsIn K k.ns name with | some (some v) => some (some v) | some none => alongIn K name [.type "object"] | none => none) = _
  unfold nsIn
  rw [F.hN]
  rfl
theorem KFacts.init (F : KFacts w K k) : findIn K (.ref k.C) (Str.ofString "__init__") = some (some (.ref k.fI)) := by rw [F.find]; kernel_rfl!
theorem KFacts.lt (F : KFacts w K k) : findIn K (.ref k.C) (Str.ofString "__lt__") = some (some (.ref k.fL)) := by rw [F.find]; kernel_rfl!
theorem KFacts.setattr (F : KFacts w K k) : findIn K (.ref k.C) (Str.ofString "__setattr__") = some (some (.builtin "object.__setattr__")) := by rw [F.find]; kernel_rfl!
theorem KFacts.getattribute (F : KFacts w K k) : findIn K (.ref k.C) (Str.ofString "__getattribute__") = some (some (.builtin "object.__getattribute__")) := by rw [F.find]; kernel_rfl!
theorem KFacts.getattr (F : KFacts w K k) : findIn K (.ref k.C) (Str.ofString "__getattr__") = some none := by rw [F.find]; kernel_rfl!
theorem KFacts.obj (F : KFacts w K k) : findIn K (.ref k.C) (Str.ofString "obj") = some (some (.ref k.md)) := by rw [F.find]; kernel_rfl!
theorem KFacts.tyC (F : KFacts w K k) : typeIn K (.ref k.C) = some (.type "type") := by unfold typeIn; dsimp only; rw [F.hC]; rfl
theorem KFacts.tyM (F : KFacts w K k) : typeIn K (.ref k.md) = some (.type "member_descriptor") := by unfold typeIn; dsimp only; rw [F.hM]; rfl
theorem KFacts.tyI (F : KFacts w K k) : typeIn K (.ref k.fI) = some (.type "function") := by unfold typeIn; dsimp only; rw [F.hI]; rfl
theorem KFacts.tyL (F : KFacts w K k) : typeIn K (.ref k.fL) = some (.type "function") := by unfold typeIn; dsimp only; rw [F.hL]; rfl
theorem KFacts.cls (F : KFacts w K k) : clsIn K k.C = some { name := Str.ofString "K", bases := [.type "object"], mro := [.ref k.C, .type "object"], ns := k.ns, qualname := Str.ofString "cmp_to_key.<locals>.K", hasDict := false, slotNames := [Str.ofString "obj"] } := by unfold clsIn; rw [F.hC]
theorem KFacts.over (F : KFacts w K k) : plainOver K k.C = true := by unfold plainOver; rw [F.cls]; rfl
theorem KFacts.makes (F : KFacts w K k) : makesIn K k.C = true := by
  have h1 : specialIn K (.ref k.C) (Str.ofString "__call__") = some (some (.builtin "type.__call__")) := by unfold specialIn; rw [F.tyC]; kernel_rfl!
  have h2 : instIn K (.ref k.C) (.type "type") = some true := by unfold instIn; rw [F.tyC]; kernel_rfl!
  unfold makesIn
  rw [F.hC]
  dsimp only
  rw [show specialIn K (.ref k.C) "__call__" = some (some (.builtin "type.__call__")) from h1, h2]
  simp
theorem KFacts.slot (F : KFacts w K k) : slotIn K k.md k.C = some 0 := by
  have h1 : recIn K k.md "member_descriptor" = some [.str (Str.ofString "obj") k.tk, .ref k.C, .builtin "proto.slot", .builtin "proto.slot#set", .int 0 0] := by unfold recIn; rw [F.hM]; rfl
  unfold slotIn
  rw [h1, F.cls]
  simp
theorem KFacts.takes (F : KFacts w K k) : takesIn K (.ref k.md) = some true := by
  have h1 : specialIn K (.ref k.md) (Str.ofString "__set__") = some (some (.builtin "member_descriptor.__set__")) := by unfold specialIn; rw [F.tyM]; kernel_rfl!
  unfold takesIn
  rw [show specialIn K (.ref k.md) "__set__" = some (some (.builtin "member_descriptor.__set__")) from h1]
theorem KFacts.taker (F : KFacts w K k) : takerIn K k.C (Str.ofString "obj") = some (some (.ref k.md)) := by
  unfold takerIn
  rw [F.obj]
  show (takesIn K (.ref k.md)).map _ = _
  rw [F.takes]
  rfl
theorem KFacts.plain (F : KFacts w K k) (name : PySem.Str) : plainGet K k.C name = true := by
  unfold plainGet
  rw [show findIn K (.ref k.C) "__getattribute__" = some (some (.builtin "object.__getattribute__")) from F.getattribute, show findIn K (.ref k.C) "__getattr__" = some none from F.getattr]
  simp
theorem KFacts.isCls (F : KFacts w K k) : isClsIn K k.C = true := by unfold isClsIn; rw [F.cls]; rfl
theorem KFacts.getter (F : KFacts w K k) : specialIn K (.ref k.md) (Str.ofString "__get__") = some (some (.builtin "member_descriptor.__get__")) := by unfold specialIn; rw [F.tyM]; kernel_rfl!
theorem KFacts.isFn (F : KFacts w K k) : isFn K (.ref k.fL) = true := by unfold PySem.W.isFn; rw [F.tyL]; rfl
end
end Mine
end
section
open PySem PySem.W PyProof.Rows PySem.Calls
set_option maxRecDepth 100000
set_option maxHeartbeats 8000000
namespace Mine
theorem kd_cells {P : Params} (i : Nat) (h : (kDef P i).2.2.names.all (fun x => x.2 != .cell) = true) : ∀ x ∈ (kDef P i).2.2.names, x.2 ≠ .cell := fun x hx => by
  have := List.all_eq_true.mp h x hx
  simpa using this
theorem kd_loc {P : Params} (i : Nat) (binds : List (PySem.Str × Value)) (h : binds.all (fun y => (kDef P i).2.2.names.lookup y.1 == some .local) = true) : ∀ y ∈ binds, (kDef P i).2.2.names.lookup y.1 = some .local := fun y hy => by
  have := List.all_eq_true.mp h y hy
  simpa using this
/-- an object of the made class that holds v -/
noncomputable def KInst (h : Heap) (k : KAd) (x : Addr) (v : Value) : Prop := ∃ ox dx od, h.get? x = some ox ∧ ox = { instObj k.C dx with slots := #[some v] } ∧ h.get? dx = some od
theorem KInst.keeps {h h' : Heap} {k : KAd} {x : Addr} {v : Value} (e : h.StaysIn h') : KInst h k x v → KInst h' k x v := fun ⟨ox, dx, od, a, b, c⟩ => ⟨ox, dx, od, e _ _ a, b, e _ _ c⟩
theorem KInst.inst {h : Heap} {k : KAd} {x : Addr} {v : Value} : KInst h k x v → ∃ ox od, InstAt h x ox k.C (some od) ∧ ox.slots = #[some v] := fun ⟨_, _, od, a, b, c⟩ => ⟨_, od, ⟨a, by rw [b], by rw [b]; rfl, by rw [b]; exact c⟩, by rw [b]⟩
theorem k_call (w : World) (dp un : Nat) (fr : Option (List Env)) (gd : Option (List Code)) (s : Shared) (k : KAd) (v : Value) (Q : Value → Shared → Prop) (E : Value → Shared → Prop)
    (hA : dp + 10 < recursionLimit) (hl : s.heap.NoLimit) (M : KAt w s.heap k)
    (hret : ∀ h' tk' x, s.heap.StaysIn h' → s.heap.objs.size ≤ h'.objs.size → ∀ dx od, s.heap.get? x = none → s.heap.get? dx = none → h'.get? x = some { instObj k.C dx with slots := #[some v] } → h'.get? dx = some od → Q (.ref x) ⟨h', s.gens, s.drawn, tk', s.os⟩) :
    wpAny (model Challenge.rw_pe0052_01.row.prog w) { handled := none, depth := dp, frames := fr, guards := gd, units := un } (call (.ref k.C) [v]) Q E s := by
  have X := fragH_in s.heap
  have Fk := M.facts
  obtain ⟨h, g, d, tk, os⟩ := s
  dsimp only at X Fk hl M hret
  refine wpAny_call ?_
  refine make_core (makes_of X Fk.makes) (looks_findIn X Fk.init) (fun self => bind_fn X self Fk.tyI) (.inl rfl) ?_
  have k2 : h.StaysIn ((h.push emptyDict).push (instObj k.C h.objs.size)) := fun b o e => Heap.get?_push_of_some _ (Heap.get?_push_of_some _ e)
  have z1 : ((h.push emptyDict).push (instObj k.C h.objs.size)).objs.size = h.objs.size + 2 := by rw [Heap.size_push, Heap.size_push]
  have hx : ((h.push emptyDict).push (instObj k.C h.objs.size)).get? (h.objs.size + 1) = some (instObj k.C h.objs.size) := by
    have := Heap.get?_push_size (h.push emptyDict) (o := instObj k.C h.objs.size) rfl
    rwa [Heap.size_push] at this
  have hd : ((h.push emptyDict).push (instObj k.C h.objs.size)).get? h.objs.size = some emptyDict := Heap.get?_push_of_some _ (Heap.get?_push_size _ rfl)
  generalize (h.push emptyDict).push (instObj k.C h.objs.size) = h2 at k2 z1 hx hd ⊢
  refine codeAny_call_def (fd := mFd w.params 2 (Str.ofString "__init__") [] .none (.ref k.cI) k.pI) (body := (kDef w.params 2).2.1) (binds := [(Str.ofString "self", .ref (h.objs.size + 1)), (Str.ofString "obj", v)]) (Nat.lt_of_le_of_lt (Nat.add_le_add_left (Nat.le_of_ble_eq_true (by kernel_rfl!) : Code.weight (.builtin "type.__call__" ⟨[.ref k.C, v], []⟩) ≤ 10) dp) hA) (k2 _ _ M.fI) rfl (hl.keeps k2) (M.codeI.keeps k2) rfl ?hb ?hc ?hloc ?_ ?h1 ?h2 ?h3
  case hb => exact BindsTo.of_eq (by kernel_rfl!)
  case hc => exact kd_cells (P := w.params) 2 (by kernel_rfl!)
  case hloc => exact kd_loc (P := w.params) 2 _ (by kernel_rfl!)
  case h1 => kernel_rfl!
  case h2 => kernel_rfl!
  case h3 => kernel_rfl!
  intro h3 ns3 k3
  have F3 : Fr h h2.objs.size h3 _ := ⟨ns3, fun b o e => k3 _ _ (k2 _ _ e), by rw [z1]; omega⟩
  have none_of : ∀ a, h.objs.size ≤ a → h.get? a = none := fun a ha => by
    cases q : h.get? a with
    | none => rfl
    | some o => exact absurd (Heap.lt_size q) (Nat.not_lt.mpr ha)
  have N3 : News h h2.objs.size h3 [(h.objs.size + 1, instObj k.C h.objs.size), (h.objs.size, emptyDict)] := fun p hp => by
    rcases List.mem_cons.mp hp with rfl | hp
    · exact ⟨k3 _ _ hx, by rw [z1]; show h.objs.size + 1 ≠ h.objs.size + 2; omega, none_of _ (Nat.le_succ _)⟩
    · rw [List.mem_singleton.mp hp]
      exact ⟨k3 _ _ hd, by rw [z1]; show h.objs.size ≠ h.objs.size + 2; omega, none_of _ (Nat.le_refl _)⟩
  clear ns3
  unfold callEnv mFd newEnv
  dsimp only
  conv in (kDef w.params 2).2.1 => whnf
  conv in (occs := *) (kDef w.params 2).2.2 => all_goals whnf
  refine (?_ : wpAny _ (Around.deeper _ (envOf _ _ h2.objs.size k.fI (.ref k.cI))) (execs _ (envOf _ _ h2.objs.size k.fI (.ref k.cI))) _ _ _)
  iterate 5 (first | (k_unfold; (try dsimp only)) | (k_end; wrow_close) | walk1 | (dsimp only; walk1) | (leave1; walk_say "STEP leave1"; try dsimp only) | fail "no step")
  refine set_slot F3 X N3 (od := emptyDict) ⟨(N3 _ (.head _)).1, rfl, rfl, (N3 _ (.tail _ (.head _))).1⟩ Fk.setattr Fk.over Fk.taker Fk.tyM Fk.slot (by decide) rfl rfl (by k_upd) fun h4 F4 N4 => ?_
  clear F3 N3
  iterate 1 (first | (k_unfold; (try dsimp only)) | (k_end; wrow_close) | walk1 | (dsimp only; walk1) | (leave1; walk_say "STEP leave1"; try dsimp only) | fail "no step")
  exact ⟨rfl, hret _ _ _ F4.keep (fr_size F4) _ _ (N4 _ (.head _)).2.2 (N4 _ (.tail _ (.head _))).2.2 (N4 _ (.head _)).1 (N4 _ (.tail _ (.head _))).1⟩
end Mine
end
section
open PySem PySem.W PyProof.Rows PySem.Calls
set_option maxRecDepth 100000
set_option maxHeartbeats 8000000
namespace Mine
theorem k_lt (w : World) {p : Program} {loose : List PySem.Str} (mean mg mb) (dp un : Nat) (fr : Option (List Env)) (gd : Option (List Code)) (s : Shared) (k : KAd) (x y : Addr) (a b : PySem.Str) (ta tb : Tok) (Q : Value → Shared → Prop) (E : Value → Shared → Prop)
    (hA : dp + 20 < recursionLimit) (hu : un + 40 < cLine) (X : (hdT.heap_1 w.params).In s.heap) (T : Top p loose mean mg mb s.heap) (M : KAt w s.heap k)
    (hx : KInst s.heap k x (.str a ta)) (hy : KInst s.heap k y (.str b tb)) (l1 : a.length < 1000) (l2 : b.length < 1000)
    (hret : ∀ h' tk', s.heap.StaysIn h' → s.heap.objs.size ≤ h'.objs.size → Q (.bool (decide (cmpV a b < 0))) ⟨h', s.gens, s.drawn, tk', s.os⟩) :
    wpAny (model Challenge.rw_pe0052_01.row.prog w) { handled := none, depth := dp, frames := fr, guards := gd, units := un } (call (.ref k.fL) [.ref x, .ref y]) Q E s := by
  have XK := fragH_in s.heap
  have Fk := M.facts
  w_on
  revert X
  k_fill
  intro X
  refine wpAny_call ?_
  refine codeAny_call_def (fd := mFd w.params 3 (Str.ofString "__lt__") [(Str.ofString "mycmp", k.cell)] (.ref k.ctL) (.ref k.cL) k.pL) (body := (kDef w.params 3).2.1) (binds := [(Str.ofString "self", .ref x), (Str.ofString "other", .ref y)]) (Nat.lt_of_le_of_lt (Nat.le_add_right dp 20) hA) M.fL rfl T.nolimit M.codeL rfl ?hb ?hc ?hloc ?_ ?h1 ?h2 ?h3
  case hb => exact BindsTo.of_eq (by kernel_rfl!)
  case hc => exact kd_cells (P := w.params) 3 (by kernel_rfl!)
  case hloc => exact kd_loc (P := w.params) 3 _ (by kernel_rfl!)
  case h1 => kernel_rfl!
  case h2 => kernel_rfl!
  case h3 => kernel_rfl!
  intro h3 ns3 k3
  have F3 : Fr s.heap s.heap.objs.size h3 _ := ⟨ns3, k3, Nat.le_refl _⟩
  clear ns3
  unfold callEnv mFd newEnv
  dsimp only
  conv in (kDef w.params 3).2.1 => whnf
  conv in (occs := *) (kDef w.params 3).2.2 => all_goals whnf
  refine (?_ : wpAny _ (Around.deeper _ (envX _ _ s.heap.objs.size k.fL (.ref k.cL) [(Str.ofString "mycmp", k.cell)])) (execs _ (envX _ _ s.heap.objs.size k.fL (.ref k.cL) [(Str.ofString "mycmp", k.cell)])) _ _ _)
  iterate 5 (first | (k_unfold; (try dsimp only)) | (k_end; wrow_close) | walk1 | (dsimp only; walk1) | (leave1; walk_say "STEP leave1"; try dsimp only) | fail "no step")
  refine wpAny_Name (wpAny_loadName_free rfl rfl rfl ⟨k.oc, F3.keep _ _ M.cell, M.cellD⟩ ?_)
  obtain ⟨ox, odx, Ix, sx⟩ := (hx.keeps F3.keep).inst
  obtain ⟨oy, ody, Iy, sy⟩ := (hy.keeps F3.keep).inst
  have N3 : News s.heap s.heap.objs.size h3 [] := fun p hp => nomatch hp
  iterate 4 (first | (k_unfold; (try dsimp only)) | (k_end; wrow_close) | walk1 | (dsimp only; walk1) | (leave1; walk_say "STEP leave1"; try dsimp only) | fail "no step")
  refine get_slot F3 XK Ix (Fk.plain _) Fk.isCls Fk.obj Fk.getter Fk.takes Fk.slot (by rw [sx]; rfl) rfl ?_
  iterate 3 (first | (k_unfold; (try dsimp only)) | (k_end; wrow_close) | walk1 | (dsimp only; walk1) | (leave1; walk_say "STEP leave1"; try dsimp only) | fail "no step")
  refine get_slot F3 XK Iy (Fk.plain _) Fk.isCls Fk.obj Fk.getter Fk.takes Fk.slot (by rw [sy]; rfl) rfl ?_
  iterate 2 (first | (k_unfold; (try dsimp only)) | (k_end; wrow_close) | walk1 | (dsimp only; walk1) | (leave1; walk_say "STEP leave1"; try dsimp only) | fail "no step")
  refine cmp_sp w mean mg mb (dp + 1) _ _ _ _ a b ta tb _ _ (Nat.lt_of_le_of_lt (by omega) hA) (Nat.lt_of_le_of_lt (by show un + 3 + 20 ≤ _; omega) hu) (by exact X.keeps F3.keep) l1 l2 (by exact T.keeps F3.keep) fun h' tk' t hs hz => ?_
  have F4 := F3.keeps hs
  have N4 : News s.heap s.heap.objs.size h' [] := fun p hp => nomatch hp
  clear F3 N3
  k_steps
  exact hret _ _ F4.keep (fr_size F4)
end Mine
end
section
open PySem PySem.W PyProof.Rows PySem.Calls
set_option maxRecDepth 100000
set_option maxHeartbeats 4000000
namespace Mine
/-- the answers by a function -/
noncomputable def runT (lt : Nat → Nat → Bool) {α : Type} : KasT α → α
  | .ret a => a
  | .ask i j k => runT lt (k (lt i j))
/-- all questions are within n -/
noncomputable def okT (n : Nat) {α : Type} : KasT α → Bool
  | .ret _ => true
  | .ask i j k => Nat.blt i n && (Nat.blt j n && (okT n (k true) && okT n (k false)))
theorem kas_tree {α : Type} {cmp : Nat → Nat → (Bool → Shared → Prop) → Shared → Prop} (n : Nat) (lt : Nat → Nat → Bool) (Inv : Shared → Prop)
    (hcmp : ∀ i j C s, i < n → j < n → Inv s → (∀ s', Inv s' → C (lt i j) s') → cmp i j C s) :
    ∀ (t : KasT α), okT n t = true → ∀ (Q : α → Shared → Prop) s, Inv s → (∀ s', Inv s' → Q (runT lt t) s') → t.kasWp cmp Q s
  | .ret a, _, Q, s, hi, h => h s hi
  | .ask i j k, ho, Q, s, hi, h => by
    unfold okT at ho
    rw [Bool.and_eq_true, Bool.and_eq_true, Bool.and_eq_true] at ho
    refine hcmp i j _ s (Nat.le_of_ble_eq_true ho.1) (Nat.le_of_ble_eq_true ho.2.1) hi fun s' hi' => ?_
    have h' : ∀ s', Inv s' → Q (runT lt (k (lt i j))) s' := h
    revert h'
    cases lt i j with
    | true => exact fun h' => kas_tree n lt Inv hcmp (k true) ho.2.2.1 Q s' hi' h'
    | false => exact fun h' => kas_tree n lt Inv hcmp (k false) ho.2.2.2 Q s' hi' h'
theorem sort_ok3 : okT 3 (kas_sort 3) = true := by decide +kernel
theorem sort_ok4 : okT 4 (kas_sort 4) = true := by decide +kernel
theorem sort_ok5 : okT 5 (kas_sort 5) = true := by decide +kernel
theorem sort_ok6 : okT 6 (kas_sort 6) = true := by decide +kernel
/-- the key's call: old objects kept, new ones told -/
noncomputable def KeyEnd (h : Heap) (s : Shared) (R : Value → List (Addr × Obj) → Prop) (y : Value) (s' : Shared) : Prop :=
  ∃ h' tk' extra, s' = { s with heap := h', toks := tk' } ∧ h.StaysIn h' ∧ (∀ p ∈ extra, h'.get? p.1 = some p.2 ∧ h.get? p.1 = none) ∧ R y extra
section
variable {prog : Program} {w : World} {A : Around} {E : Value → Shared → Prop} {s : Shared} {h₀ : Heap} {L a kS : Addr} {m : PySem.Str → Option Value} {news : List (Addr × Obj)} {vs : List Value} {e1 : Nat} {P : PySem.Fin → Shared → Prop} {T : Value} {lt : Nat → Nat → Bool} {R : Nat → Value → List (Addr × Obj) → Prop}
/-- the sort's end: the list takes the items in their order -/
theorem key_tail {keys : Array Value} {e : Nat} {st : SortSt} {out : List Value} (F : Fr h₀ L s.heap m) (N : News h₀ L s.heap (news ++ [(kS, seqObj "list" keys e), (a, seqObj "list" #[] e1)])) (hka : kS ≠ a) (hnk : ∀ p ∈ news, p.1 ≠ kS) (hna : ∀ p ∈ news, p.1 ≠ a)
    (hz1 : keys.size ≤ 100) (hz2 : out.length ≤ 100) (ho : (arrOf st).map (·.2) = out.toArray) (hfl : failedOf st = none)
    (h : ∀ h' tk c, Fr h₀ L h' m → News h₀ L h' ((a, seqObj "list" out.toArray c) :: news) → P (.done (.ret .none)) { s with heap := h', toks := tk }) :
    wpAny (model prog w) A (ksk_tail a false e1 (.ref kS) st) P E s := by
  have nk := N (kS, seqObj "list" keys e) (List.mem_append_right _ (.head _))
  have na := N (a, seqObj "list" #[] e1) (List.mem_append_right _ (.tail _ (.head _)))
  have Nn : News h₀ L s.heap news := fun p hp => N p (List.mem_append_left _ hp)
  have s1 := Heap.SameBut.update s.heap kS (Obj.mapSeq fun _ => (#[] : Array Value))
  have na1 : (s.heap.update kS (Obj.mapSeq fun _ => (#[] : Array Value))).get? a = some (seqObj "list" #[] e1) := (s1.2 a hka.symm).trans na.1
  have s2 := Heap.SameBut.update (s.heap.update kS (Obj.mapSeq fun _ => (#[] : Array Value))) a (Obj.mapSeq fun _ => out.toArray)
  obtain ⟨c2, hc2⟩ : ∃ c2, ((s.heap.update kS (Obj.mapSeq fun _ => (#[] : Array Value))).update a (Obj.mapSeq fun _ => out.toArray)).get? a = some (seqObj "list" out.toArray c2) := ⟨_, get?_update_seq na1 fun _ => out.toArray⟩
  have N2 := ksk_news (ksk_news Nn s1 hnk) s2 hna
  unfold ksk_tail
  dsimp only
  rw [ho]
  refine wpAny_bind (listUpdate_at nk.1 rfl ?_ (by rw [sizeLine_eq]; omega) (Nat.zero_le _))
  refine wpAny_bind (wpAny_letGo ?_)
  refine wpAny_bind (seqEpoch_at na1 rfl ?_)
  refine wpAny_bind (listUpdate_at na1 rfl ?_ (Nat.zero_le _) (by show out.toArray.size ≤ _; rw [List.size_toArray, sizeLine_eq]; omega))
  rw [hfl]
  simp only [bne_self_eq_false, Bool.false_eq_true, if_false]
  refine wpAny_pure (h _ _ c2 (ksk_fr (ksk_fr F s1 nk.2.1 nk.2.2) s2 na.2.1 na.2.2) (fun p hp => ?_))
  rcases List.mem_cons.mp hp with rfl | hp
  · exact ⟨hc2, na.2⟩
  · exact N2 p hp
/-- the sort itself, the keys at hand -/
theorem key_end {keys : Array Value} {e : Nat} (F : Fr h₀ L s.heap m) (N : News h₀ L s.heap (news ++ [(kS, seqObj "list" keys e), (a, seqObj "list" #[] e1)])) (hka : kS ≠ a) (hnk : ∀ p ∈ news, p.1 ≠ kS) (hna : ∀ p ∈ news, p.1 ≠ a)
    (hlen : keys.size = vs.length) (h2 : 2 ≤ vs.length) (h64 : vs.length < 64) (hok : okT vs.length (kas_sort vs.length) = true)
    (hT : ∀ v ∈ keys.toList, Looks (model prog w) s.heap (typeOf v) T) (hT1 : (T != Value.type "tuple") = true) (hT2 : (T == T) = true)
    (ask : ∀ i j h tk (C : Bool → Shared → Prop), i < vs.length → j < vs.length → Fr h₀ L h m → s.heap.StaysIn h →
      (∀ h' tk', h.StaysIn h' → C (lt i j) { s with heap := h', toks := tk' }) → wpAny (model prog w) A (keyLt' oneType' (keys.getD i .none) (keys.getD j .none)) C (fun _ _ => False) { s with heap := h, toks := tk })
    (h : ∀ h' tk c, Fr h₀ L h' m → News h₀ L h' ((a, seqObj "list" ((runT lt (kas_sort vs.length)).toList.map fun i => vs.getD i .none).toArray c) :: news) → P (.done (.ret .none)) { s with heap := h', toks := tk })
    (hsz : (runT lt (kas_sort vs.length)).size ≤ 100) :
    wpAny (model prog w) A (ksk_end a false vs.toArray e1 (.ref kS) keys) P E s := by
  have hzs : (keys.zip vs.toArray).size = vs.length := by rw [Array.size_zip, hlen, List.size_toArray, Nat.min_self]
  unfold ksk_end
  dsimp only
  rw [if_neg (by decide), if_neg (by rw [List.size_toArray]; omega), if_neg (by rw [List.size_toArray]; omega)]
  refine wpAny_bind ?_
  have hk : wpAny (model prog w) A (keyKind' keys.toList.toArray) (fun κ s' => κ = oneType' ∧ s' = s) E s := kas_kind (by rw [Array.length_toList]; omega) hT hT1 hT2 ⟨rfl, rfl⟩
  rw [Array.toArray_toList] at hk
  refine wpAny_mono hk (fun κ s' hq => ?_) fun _ _ e => e
  obtain ⟨rfl, rfl⟩ := hq
  rw [if_neg (by decide)]
  have item_at : ∀ i, i < vs.length → (kas_item (keys.zip vs.toArray) i).1 = keys.getD i .none := fun i hi => by
    have h1 : i < (keys.zip vs.toArray).size := by omega
    have h3 : i < keys.size := by omega
    have e1 : kas_item (keys.zip vs.toArray) i = (keys.zip vs.toArray)[i] := by unfold kas_item Array.getD; rw [dif_pos h1]; rfl
    have e2 : keys.getD i .none = keys[i] := by unfold Array.getD; rw [dif_pos h3]; rfl
    rw [e1, e2, Array.getElem_zip]
  have item_2 : ∀ i, (kas_item (keys.zip vs.toArray) i).2 = vs.getD i .none := fun i => by
    by_cases hi : i < vs.length
    · have h1 : i < (keys.zip vs.toArray).size := by omega
      have e1 : kas_item (keys.zip vs.toArray) i = (keys.zip vs.toArray)[i] := by unfold kas_item Array.getD; rw [dif_pos h1]; rfl
      rw [e1, Array.getElem_zip]
      simp [hi]
    · have h1 : ¬ i < (keys.zip vs.toArray).size := by omega
      have e1 : kas_item (keys.zip vs.toArray) i = (Value.none, Value.none) := by unfold kas_item Array.getD; rw [dif_neg h1]
      rw [e1]
      simp [Nat.le_of_not_lt hi]
  have est : SortSt.mk' oneType' (keys.zip vs.toArray) #[] 7 none = kas_st oneType' (keys.zip vs.toArray) (List.toArray (List.range vs.length)) := by
    have e := kas_range (keys.zip vs.toArray)
    rw [hzs] at e
    show SortSt.mk' oneType' (keys.zip vs.toArray) #[] 7 none = SortSt.mk' oneType' ((List.toArray (List.range vs.length)).map (kas_item (keys.zip vs.toArray))) #[] 7 none
    rw [e]
  have fin := kas_tree (cmp := kas_cmp prog w A oneType' (keys.zip vs.toArray)) vs.length lt (fun s'' => ∃ h' tk', s'' = { s' with heap := h', toks := tk' } ∧ s'.heap.StaysIn h')
    (fun i j C s'' hi hj hI hC => by
      obtain ⟨hh, tk, rfl, hs⟩ := hI
      unfold kas_cmp
      rw [item_at i hi, item_at j hj]
      exact ask i j hh tk C hi hj (F.keeps hs) hs fun h' tk' k => hC _ ⟨h', tk', rfl, fun b o e => k _ _ (hs _ _ e)⟩)
    (kas_sort vs.length) hok (fun p s'' => p = runT lt (kas_sort vs.length) ∧ ∃ h' tk', s'' = { s' with heap := h', toks := tk' } ∧ s'.heap.StaysIn h') s' ⟨_, _, rfl, fun _ _ e => e⟩ (fun s'' hI => ⟨rfl, hI⟩)
  have run := kas_runs (prog := prog) (w := w) (A := A) (E := E) (κ := oneType') (it := keys.zip vs.toArray)
    (Q := fun _ st' s'' => arrOf st' = (runT lt (kas_sort vs.length)).map (kas_item (keys.zip vs.toArray)) ∧ failedOf st' = none ∧ ∃ h' tk', s'' = { s' with heap := h', toks := tk' } ∧ s'.heap.StaysIn h')
    h2 h64 (fun p' st' s'' a1 a2 a3 a4 => ⟨by rw [a2, a4.1], a3, a4.2⟩) fin
  rw [← est] at run
  refine wpAny_bind (wpAny_mono run ?_ fun _ _ e => e)
  rintro ⟨⟨⟩, st'⟩ s'' ⟨har, hf, hh, tk, rfl, hs⟩
  dsimp only
  refine key_tail (F.keeps hs) (N.grown hs) hka hnk hna (by omega) (by rw [List.length_map, Array.length_toList]; exact hsz) ?_ hf (fun h' tk' c F' N' => h h' tk' c F' N')
  apply Array.toList_inj.mp
  rw [har, Array.map_map, Array.toList_map]
  exact List.map_congr_left fun i _ => item_2 i
/-- the keys are made, one by one -/
theorem key_rest {f : Value} (F : Fr h₀ L s.heap m) (N : News h₀ L s.heap (news ++ [(kS, seqObj "list" #[] 0), (a, seqObj "list" #[] e1)])) (hka : kS ≠ a) (hnk : ∀ p ∈ news, p.1 ≠ kS) (hna : ∀ p ∈ news, p.1 ≠ a)
    (h2 : 2 ≤ vs.length) (h64 : vs.length < 64) (hok : okT vs.length (kas_sort vs.length) = true) (hsz : (runT lt (kas_sort vs.length)).size ≤ 100)
    (hR : ∀ i y own extra, R i y own → R i y (extra ++ own)) (hR2 : ∀ i y own extra, R i y extra → R i y (extra ++ own))
    (turn : ∀ (i : Nat) (v : Value), vs[i]? = some v → ∀ (h : Heap) (tk : Nat), Fr h₀ L h m → News h₀ L h news →
      wpAny (model prog w) A (call f [v]) (KeyEnd h s (R i)) (fun _ _ => False) { s with heap := h, toks := tk })
    (hT : ∀ (keys : Array Value) (own : List (Addr × Obj)) (h : Heap), keys.size = vs.length → (∀ j y, keys.toList[j]? = some y → R j y own) → Fr h₀ L h m → News h₀ L h (own ++ news) → ∀ v ∈ keys.toList, Looks (model prog w) h (typeOf v) T) (hT1 : (T != Value.type "tuple") = true) (hT2 : (T == T) = true)
    (ask : ∀ (keys : Array Value) (own : List (Addr × Obj)), keys.size = vs.length → (∀ j y, keys.toList[j]? = some y → R j y own) → ∀ i j h tk (C : Bool → Shared → Prop), i < vs.length → j < vs.length → Fr h₀ L h m → News h₀ L h (own ++ news) →
      (∀ h' tk', h.StaysIn h' → C (lt i j) { s with heap := h', toks := tk' }) → wpAny (model prog w) A (keyLt' oneType' (keys.getD i .none) (keys.getD j .none)) C (fun _ _ => False) { s with heap := h, toks := tk })
    (h : ∀ h' tk c own, Fr h₀ L h' m → News h₀ L h' ((a, seqObj "list" ((runT lt (kas_sort vs.length)).toList.map fun i => vs.getD i .none).toArray c) :: (own ++ news)) → P (.done (.ret .none)) { s with heap := h', toks := tk }) :
    wpAny (model prog w) A (ksk_rest a f false vs.toArray e1 (.ref kS)) P E s := by
  unfold ksk_rest
  refine wpAny_bind (wpAny_rule ?_)
  rw [← Array.forIn_toList]
  refine wpAny_bind (ksk_fold (fun i s' => ∃ h' tk kA e own, s' = { s with heap := h', toks := tk } ∧ Fr h₀ L h' m ∧ News h₀ L h' ((own ++ news) ++ [(kS, seqObj "list" kA e), (a, seqObj "list" #[] e1)]) ∧ kA.size = i ∧ (∀ p ∈ own, p.1 ≠ kS ∧ p.1 ≠ a) ∧ (∀ j y, kA.toList[j]? = some y → R j y own)) vs 0 s
    ⟨s.heap, s.toks, #[], 0, [], rfl, F, N, rfl, List.forall_mem_nil _, fun j y e => by cases e⟩ ?step ?done)
  case step =>
    rintro j x s' hx ⟨h', tk, kA, e, own, rfl, F', N', hz, ho, hk⟩
    simp only [Nat.zero_add] at hz ⊢
    have hj : j < vs.length := (List.getElem?_eq_some_iff.mp hx).1
    refine wpAny_bind (wpAny_attempt (wpAny_mono (turn j x hx h' tk F' (fun p hp => N' p (List.mem_append_left _ (List.mem_append_right _ hp)))) (fun v s'' he => ?_) fun _ _ hF => hF.elim))
    obtain ⟨g, tk2, extra, rfl, hs, hx2, hr⟩ := he
    dsimp only
    have F2 := F'.keeps hs
    have N2 := N'.grown hs
    have nk := N2 (kS, seqObj "list" kA e) (List.mem_append_right _ (.head _))
    have na := N2 (a, seqObj "list" #[] e1) (List.mem_append_right _ (.tail _ (.head _)))
    have ok := (N' (kS, seqObj "list" kA e) (List.mem_append_right _ (.head _))).1
    have oa := (N' (a, seqObj "list" #[] e1) (List.mem_append_right _ (.tail _ (.head _)))).1
    have live : ∀ b o, h'.get? b = some o → ∀ p ∈ extra, p.1 ≠ b := fun b o e p hp q => by
      have := (hx2 p hp).2
      rw [q, e] at this
      cases this
    have NX : News h₀ L g extra := fun p hp => by
      refine ⟨(hx2 p hp).1, fun q => ?_, ?_⟩
      · obtain ⟨oL, es, ep, hL, r⟩ := F'.ns
        exact live _ _ hL p hp q
      · cases q : h₀.get? p.1 with
        | none => rfl
        | some o' => exact absurd rfl (live _ _ (F'.keep _ _ q) p hp)
    have hxk : ∀ p ∈ extra, p.1 ≠ kS := live _ _ ok
    have hxa : ∀ p ∈ extra, p.1 ≠ a := live _ _ oa
    have s1 := Heap.SameBut.update g kS (Obj.mapSeq (·.push v))
    obtain ⟨c2, hc2⟩ : ∃ c2, (g.update kS (Obj.mapSeq (·.push v))).get? kS = some (seqObj "list" (kA.push v) c2) := ⟨_, get?_update_seq nk.1 (·.push v)⟩
    refine wpAny_bind (listUpdate_at nk.1 rfl ?_ (by rw [sizeLine_eq]; omega) (Nat.le_trans (Nat.le_of_eq (Array.size_push ..)) (by rw [sizeLine_eq]; omega)))
    refine wpAny_pure ⟨rfl, _, _, kA.push v, c2, extra ++ own, rfl, ksk_fr F2 s1 nk.2.1 nk.2.2, fun p hp => ?_, by rw [Array.size_push, hz], fun p hp => ?_, fun j' y' e' => ?_⟩
    · have off : p.1 ≠ kS → News h₀ L g [p] → (g.update kS (Obj.mapSeq (·.push v))).get? p.1 = some p.2 ∧ p.1 ≠ L ∧ h₀.get? p.1 = none := fun hne hN => ⟨(s1.2 p.1 hne).trans (hN p (.head _)).1, (hN p (.head _)).2⟩
      rcases List.mem_append.mp hp with hp | hp
      · rcases List.mem_append.mp hp with hp | hp
        · rcases List.mem_append.mp hp with hp | hp
          · exact off (hxk p hp) fun q hq => by rw [List.mem_singleton.mp hq]; exact NX p hp
          · exact off (ho p hp).1 fun q hq => by rw [List.mem_singleton.mp hq]; exact N2 p (List.mem_append_left _ (List.mem_append_left _ hp))
        · exact off (hnk p hp) fun q hq => by rw [List.mem_singleton.mp hq]; exact N2 p (List.mem_append_left _ (List.mem_append_right _ hp))
      · rcases List.mem_cons.mp hp with rfl | hp
        · exact ⟨hc2, nk.2⟩
        · rw [List.mem_singleton.mp hp]
          exact ⟨(s1.2 a hka.symm).trans na.1, na.2⟩
    · rcases List.mem_append.mp hp with hp | hp
      · exact ⟨hxk p hp, hxa p hp⟩
      · exact ho p hp
    · rw [Array.toList_push, List.getElem?_append] at e'
      split at e'
      · exact hR _ _ _ _ (hk j' y' e')
      · rename_i hlt
        have h1 := (List.getElem?_eq_some_iff.mp e').1
        have h3 : j' = j := by simp at h1 hlt; omega
        subst h3
        have h4 : j' - kA.toList.length = 0 := by simp; omega
        rw [h4] at e'
        simp at e'
        subst e'
        exact hR2 _ _ _ _ hr
  case done =>
    rintro s' ⟨h', tk, kA, e, own, rfl, F', N', hz, ho, hk⟩
    rw [Nat.zero_add] at hz
    have nk := N' (kS, seqObj "list" kA e) (List.mem_append_right _ (.head _))
    refine wpAny_bind (listItems_at nk.1 rfl ?_)
    have Nn : News h₀ L h' (own ++ news) := fun p hp => N' p (List.mem_append_left _ hp)
    refine key_end (s := { s with heap := h', toks := tk }) (keys := kA) F' N' hka (fun p hp => (List.mem_append.mp hp).elim (fun q => (ho p q).1) (hnk p)) (fun p hp => (List.mem_append.mp hp).elim (fun q => (ho p q).2) (hna p)) hz h2 h64 hok (hT kA own h' hz hk F' Nn) hT1 hT2
      (fun i j hh tk' C hi hj F2 hs hC => ask kA own hz hk i j hh tk' C hi hj F2 (Nn.grown hs) hC) (fun hh tk' c F2 N2 => h hh tk' c own F2 N2) hsz
/-- list.sort with a key -/
theorem key_sort {f : Value} {n : Nat} (F : Fr h₀ L s.heap m) (N : News h₀ L s.heap news) (ho : s.heap.get? a = some (seqObj "list" vs.toArray n)) (haL : a ≠ L) (ha0 : h₀.get? a = none) (hna : ∀ p ∈ news, p.1 ≠ a)
    (h2 : 2 ≤ vs.length) (h64 : vs.length < 64) (hok : okT vs.length (kas_sort vs.length) = true) (hsz : (runT lt (kas_sort vs.length)).size ≤ 100)
    (hR : ∀ i y own extra, R i y own → R i y (extra ++ own)) (hR2 : ∀ i y own extra, R i y extra → R i y (extra ++ own))
    (turn : ∀ (i : Nat) (v : Value), vs[i]? = some v → ∀ (h : Heap) (tk : Nat), Fr h₀ L h m → News h₀ L h news →
      wpAny (model prog w) A (call f [v]) (KeyEnd h s (R i)) (fun _ _ => False) { s with heap := h, toks := tk })
    (hT : ∀ (keys : Array Value) (own : List (Addr × Obj)) (h : Heap), keys.size = vs.length → (∀ j y, keys.toList[j]? = some y → R j y own) → Fr h₀ L h m → News h₀ L h (own ++ news) → ∀ v ∈ keys.toList, Looks (model prog w) h (typeOf v) T) (hT1 : (T != Value.type "tuple") = true) (hT2 : (T == T) = true)
    (ask : ∀ (keys : Array Value) (own : List (Addr × Obj)), keys.size = vs.length → (∀ j y, keys.toList[j]? = some y → R j y own) → ∀ i j h tk (C : Bool → Shared → Prop), i < vs.length → j < vs.length → Fr h₀ L h m → News h₀ L h (own ++ news) →
      (∀ h' tk', h.StaysIn h' → C (lt i j) { s with heap := h', toks := tk' }) → wpAny (model prog w) A (keyLt' oneType' (keys.getD i .none) (keys.getD j .none)) C (fun _ _ => False) { s with heap := h, toks := tk })
    (h : ∀ h' tk c own, Fr h₀ L h' m → News h₀ L h' ((a, seqObj "list" ((runT lt (kas_sort vs.length)).toList.map fun i => vs.getD i .none).toArray c) :: (own ++ news)) → P (.done (.ret .none)) { s with heap := h', toks := tk }) :
    wpAny (model prog w) A (ksk_tree a f false) P E s := by
  have ha : a < s.heap.objs.size := Heap.lt_size ho
  have s1 := Heap.SameBut.update s.heap a (Obj.mapSeq fun _ => (#[] : Array Value))
  obtain ⟨e1, ho1⟩ : ∃ e1, (s.heap.update a (Obj.mapSeq fun _ => (#[] : Array Value))).get? a = some (seqObj "list" #[] e1) := ⟨_, get?_update_seq ho fun _ => #[]⟩
  have F1 := ksk_fr F s1 haL ha0
  have N1 := ksk_news N s1 hna
  have hz : (s.heap.update a (Obj.mapSeq fun _ => (#[] : Array Value))).objs.size = s.heap.objs.size := Heap.size_update ..
  unfold ksk_tree
  refine wpAny_bind (listItems_at ho rfl ?_)
  refine wpAny_bind (listUpdate_at ho rfl ?_ (by rw [List.size_toArray, sizeLine_eq]; omega) (Nat.zero_le _))
  generalize s.heap.update a (Obj.mapSeq fun _ => (#[] : Array Value)) = g at ho1 F1 N1 hz ⊢
  refine wpAny_bind (seqEpoch_at ho1 rfl ?_)
  refine wpAny_bind (wpAny_newTuple ?_ (by show vs.length ≤ _; rw [sizeLine_eq]; omega))
  refine wpAny_bind (wpAny_newList ?_ (Nat.zero_le _))
  refine wpAny_holding ?_
  have hk : (g.push (seqObj "tuple" vs.toArray 0)).objs.size = s.heap.objs.size + 1 := by rw [size_push', hz]
  have hLk : L < (g.push (seqObj "tuple" vs.toArray 0)).objs.size := (F1.push _).ns.lt
  refine key_rest (s := { s with heap := (g.push (seqObj "tuple" vs.toArray 0)).push (seqObj "list" #[] 0) }) (kS := (g.push (seqObj "tuple" vs.toArray 0)).objs.size)
    ((F1.push _).push _) (fun p hp => ?_) (by rw [hk]; exact Nat.ne_of_gt (Nat.lt_succ_of_lt ha)) (fun p hp => by rw [hk]; exact Nat.ne_of_lt (Nat.lt_succ_of_lt (Heap.lt_size (N p hp).1))) hna h2 h64 hok hsz hR hR2 turn hT hT1 hT2 ask h
  rcases List.mem_append.mp hp with hp | hp
  · exact ⟨Heap.get?_push_of_some _ (Heap.get?_push_of_some _ (N1 p hp).1), (N1 p hp).2⟩
  · rcases List.mem_cons.mp hp with rfl | hp
    · exact ⟨Heap.get?_push_size _ rfl, Nat.ne_of_gt hLk, Heap.get?_none_of_le (Nat.le_trans F.above (Nat.le_of_lt hLk))⟩
    · rw [List.mem_singleton.mp hp]
      exact ⟨Heap.get?_push_of_some _ (Heap.get?_push_of_some _ ho1), haL, ha0⟩
/-- sorted with a key -/
theorem key_sorted {l q : Addr} {Q : Value → Shared → Prop} (F : Fr h₀ L s.heap m) (N : News h₀ L s.heap news) (hl : s.heap.IsList l vs.toArray)
    (h2 : 2 ≤ vs.length) (h64 : vs.length < 64) (hok : okT vs.length (kas_sort vs.length) = true) (hsz : (runT lt (kas_sort vs.length)).size ≤ 100)
    (hR : ∀ i y own extra, R i y own → R i y (extra ++ own)) (hR2 : ∀ i y own extra, R i y extra → R i y (extra ++ own))
    (turn : ∀ (i : Nat) (v : Value), vs[i]? = some v → ∀ (h : Heap) (tk : Nat), Fr h₀ L h m → News h₀ L h news →
      wpAny (model prog w) A.in1.in1 (call (.ref q) [v]) (KeyEnd h s (R i)) (fun _ _ => False) { s with heap := h, toks := tk })
    (hT : ∀ (keys : Array Value) (own : List (Addr × Obj)) (h : Heap), keys.size = vs.length → (∀ j y, keys.toList[j]? = some y → R j y own) → Fr h₀ L h m → News h₀ L h (own ++ news) → ∀ v ∈ keys.toList, Looks (model prog w) h (typeOf v) T) (hT1 : (T != Value.type "tuple") = true) (hT2 : (T == T) = true)
    (ask : ∀ (keys : Array Value) (own : List (Addr × Obj)), keys.size = vs.length → (∀ j y, keys.toList[j]? = some y → R j y own) → ∀ i j h tk (C : Bool → Shared → Prop), i < vs.length → j < vs.length → Fr h₀ L h m → News h₀ L h (own ++ news) →
      (∀ h' tk', h.StaysIn h' → C (lt i j) { s with heap := h', toks := tk' }) → wpAny (model prog w) A.in1.in1 (keyLt' oneType' (keys.getD i .none) (keys.getD j .none)) C (fun _ _ => False) { s with heap := h, toks := tk })
    (h : ∀ D h' tk c, Fr h₀ L h' m → News h₀ L h' ((D, seqObj "list" ((runT lt (kas_sort vs.length)).toList.map fun i => vs.getD i .none).toArray c) :: news) → (∀ p ∈ news, p.1 < D) → Q (.ref D) { s with heap := h', toks := tk }) :
    wpAny (model prog w) A (call (.builtin "sorted") [.ref l] [(Str.ofString "key", .ref q)]) Q E s := by
  refine call_function_entry_kw kind_sorted plain_sorted entry_sorted (ksk_s1 _ _) ?_
  unfold Builtin.«sorted»
  refine wpAny_bind (m := checkCount "sorted" 1 1 _) (wpAny_pure ?_)
  refine wpAny_bind (collect_list hl ?_ (by rw [sizeLine_eq]; omega))
  refine wpAny_bind (wpAny_newList ?_ (by rw [sizeLine_eq]; omega))
  have hz : ((s.heap.push (seqObj "list" #[] 0)).update s.heap.objs.size (Obj.mapSeq (· ++ vs.toArray))).objs.size = s.heap.objs.size + 1 := by
    rw [Heap.size_update, size_push']
  have keep0 : ∀ b o, s.heap.get? b = some o → ((s.heap.push (seqObj "list" #[] 0)).update s.heap.objs.size (Obj.mapSeq (· ++ vs.toArray))).get? b = some o := fun b o q => by
    have hlt : b < s.heap.objs.size := Heap.lt_size q
    rw [Heap.get?_update_ne _ _ _ _ (Nat.ne_of_lt hlt), Heap.get?_push_ne _ _ _ (Nat.ne_of_lt hlt)]
    exact q
  have hL : L < s.heap.objs.size := F.ns.lt
  show wpAny _ _ _ _ _ { s with heap := ((s.heap.push (seqObj "list" #[] 0)).update s.heap.objs.size (Obj.mapSeq (· ++ vs.toArray))).push (seqObj "list" vs.toArray 0) }
  generalize (s.heap.push (seqObj "list" #[] 0)).update s.heap.objs.size (Obj.mapSeq (· ++ vs.toArray)) = g at hz keep0 ⊢
  have hoL : (g.push (seqObj "list" vs.toArray 0)).get? g.objs.size = some (seqObj "list" vs.toArray 0) := Heap.get?_push_size _ rfl
  have keep : ∀ b o, s.heap.get? b = some o → (g.push (seqObj "list" vs.toArray 0)).get? b = some o := fun b o e => Heap.get?_push_of_some _ (keep0 b o e)
  refine wpAny_bind (wpAny_holding (wpAny_call_entry_kw slot_list_sort ⟨_, hoL, rfl⟩ entry_list_sort ?body (ksk_l1 _ _)))
  case body =>
    show wpAny (model prog w) A.in1.in1 (Builtin.«list.sort» ⟨[.ref g.objs.size], [(Str.ofString "key", .ref q)]⟩) _ _ _
    rw [ksk_t1]
    refine key_sort (lt := lt) (R := R) (T := T) (s := { s with heap := g.push (seqObj "list" vs.toArray 0) }) (F.kept keep) (N.grown keep) hoL (by rw [hz]; exact Nat.ne_of_gt (Nat.lt_succ_of_lt hL)) (Heap.get?_none_of_le (by rw [hz]; exact Nat.le_trans F.above (Nat.le_succ_of_le (Nat.le_of_lt hL))))
      (fun p hp => Nat.ne_of_lt (by rw [hz]; exact Nat.lt_succ_of_lt (Heap.lt_size (N p hp).1))) h2 h64 hok hsz hR hR2 turn hT hT1 hT2 ask fun h' tk c own F' N' => ⟨_, rfl, ?_⟩
    exact wpAny_pure ⟨_, rfl, h _ h' tk c F' (fun p hp => N' p ((List.mem_cons.mp hp).elim (fun e => e ▸ .head _) fun hp => .tail _ (List.mem_append_right _ hp))) (fun p hp => by rw [hz]; exact Nat.lt_succ_of_lt (Heap.lt_size (N p hp).1))⟩
end
end Mine
end
section
open PySem PySem.W PyProof.Rows PySem.Calls
open PySem.AutoSeq1 (wpAny_loadPart')
open PySem.MeetsSeq PySem.MeetsSeq3
set_option maxRecDepth 100000
set_option maxHeartbeats 4000000
namespace Mine
/-- [m, x] < [k, y] -/
noncomputable def ltL (m : Int) (x : PySem.Str) (k : Int) (y : PySem.Str) : Bool := if m = k then (if x = y then false else decide (x.cps.toList < y.cps.toList)) else decide (m < k)
noncomputable abbrev lsObj (items : Array Value) (n : Nat) : Obj := { cls := .type "list", dict := none, data := .seq items n, slots := #[] }
section
variable (l b : Addr) (m k : Int) (x y : PySem.Str) (t u t' u' : Tok) (n n2 : Nat)
theorem lt_loop2 : Meets (Builtin.«list.__eq__.loop» ⟨[.ref l, .ref b, rawInt (1 + 1), rawInt 0], []⟩)
      (fun _ R s => s.heap.get? l = some (lsObj #[.int m t, .str x u] n) ∧ s.heap.get? b = some (lsObj #[.int k t', .str y u'] n2) ∧ R (.ok (.ret (.bool false))) s) := by
  intro prog w A R s h
  obtain ⟨hp, g, d, tk, os⟩ := s; obtain ⟨hl, hb, h⟩ := h
  wp_walk using wpAny_loadPart' hl, wpAny_loadPart' hb
  exact h
theorem lt_loop1 : Meets (Builtin.«list.__eq__.loop» ⟨[.ref l, .ref b, rawInt (0 + 1), rawInt 0], []⟩)
      (fun _ R s => s.heap.get? l = some (lsObj #[.int m t, .str x u] n) ∧ s.heap.get? b = some (lsObj #[.int k t', .str y u'] n2) ∧ R (.ok (.ret (.bool (if x = y then false else decide (x.cps.toList < y.cps.toList))))) s) := by
  intro prog w A R s h
  obtain ⟨hp, g, d, tk, os⟩ := s; obtain ⟨hl, hb, h⟩ := h
  obtain ⟨it, hit⟩ : ∃ it : Array Value, it = #[.int m t, .str x u] := ⟨_, rfl⟩
  obtain ⟨it2, hit2⟩ : ∃ it : Array Value, it = #[.int k t', .str y u'] := ⟨_, rfl⟩
  rw [← hit] at hl; rw [← hit2] at hb
  have hi1 : it[Int.toNat (0 + 1)]? = some (.str x u) := by subst hit; rfl
  have hi2 : it2[Int.toNat (0 + 1)]? = some (.str y u') := by subst hit2; rfl
  wp_walk using wpAny_loadPart' hl, wpAny_loadPart' hb
  rw [hi1, hi2]
  refine wpAny_bind (wpAny_eqBool_str ?_)
  by_cases e : x = y
  · rw [if_pos e] at h
    rw [decide_eq_true e]
    wp_walk
    exact ⟨plainId_quiet plain_eq_loop _, codeAny_builtin entry_eq_loop (by
      rw [Around.under_plainId plain_eq_loop _]
      exact lt_loop2 l b m k x y t u t' u' n n2 prog w A R _ ⟨hit ▸ hl, hit2 ▸ hb, h⟩)⟩
  · rw [if_neg e] at h
    rw [decide_eq_false e]
    wp_walk using wpAny_loadPart' hl, wpAny_loadPart' hb
    rw [hi1, hi2]
    refine (?_ : wpAny _ _ (richCompare .Lt (.str x u) (.str y u') >>= fun r => ret r) _ _ _)
    refine wpAny_bind (wpAny_richCompare_same (typeIs_str _ _ _) (typeIs_str _ _ _) slot_str_lt (call_str_lt ⟨nofun, ?_⟩))
    exact wpAny_pure h
theorem lt_loop0 : Meets (Builtin.«list.__eq__.loop» ⟨[.ref l, .ref b, rawInt 0, rawInt 0], []⟩)
      (fun _ R s => s.heap.get? l = some (lsObj #[.int m t, .str x u] n) ∧ s.heap.get? b = some (lsObj #[.int k t', .str y u'] n2) ∧ R (.ok (.ret (.bool (ltL m x k y)))) s) := by
  intro prog w A R s h
  obtain ⟨hp, g, d, tk, os⟩ := s; obtain ⟨hl, hb, h⟩ := h
  obtain ⟨it, hit⟩ : ∃ it : Array Value, it = #[.int m t, .str x u] := ⟨_, rfl⟩
  obtain ⟨it2, hit2⟩ : ∃ it : Array Value, it = #[.int k t', .str y u'] := ⟨_, rfl⟩
  rw [← hit] at hl; rw [← hit2] at hb
  have hi1 : it[Int.toNat 0]? = some (.int m t) := by subst hit; rfl
  have hi2 : it2[Int.toNat 0]? = some (.int k t') := by subst hit2; rfl
  wp_walk using wpAny_loadPart' hl, wpAny_loadPart' hb
  rw [hi1, hi2]
  refine wpAny_bind (wpAny_eqBool_int ?_)
  unfold ltL at h
  by_cases e : m = k
  · rw [if_pos e] at h
    rw [beq_iff_eq.mpr e]
    wp_walk
    exact ⟨plainId_quiet plain_eq_loop _, codeAny_builtin entry_eq_loop (by
      rw [Around.under_plainId plain_eq_loop _]
      exact lt_loop1 l b m k x y t u t' u' n n2 prog w A R _ ⟨hit ▸ hl, hit2 ▸ hb, h⟩)⟩
  · rw [if_neg e] at h
    rw [beq_eq_false_iff_ne.mpr e]
    wp_walk using wpAny_loadPart' hl, wpAny_loadPart' hb
    rw [hi1, hi2]
    refine (?_ : wpAny _ _ (richCompare .Lt (.int m t) (.int k t') >>= fun r => ret r) _ _ _)
    refine wpAny_bind (wpAny_richCompare_same (typeIs_int _ _ _) (typeIs_int _ _ _) slot_int_lt (call_int_lt ⟨nofun, ?_⟩))
    exact wpAny_pure h
theorem list_lt : Meets (Builtin.«list.__lt__» ⟨[.ref l, .ref b], []⟩)
      (fun _ R s => s.heap.get? l = some (lsObj #[.int m t, .str x u] n) ∧ s.heap.get? b = some (lsObj #[.int k t', .str y u'] n2) ∧ R (.ok (.ret (.bool (ltL m x k y)))) s) := by
  intro prog w A R s h
  obtain ⟨hp, g, d, tk, os⟩ := s; obtain ⟨hl, hb, h⟩ := h
  have f3 := PySem.AutoSeq1.sub_list_list
  wp_walk using wpAny_loadPart' hl, wpAny_loadPart' hb
  exact ⟨plainId_quiet plain_eq_loop _, codeAny_builtin entry_eq_loop (by
    rw [Around.under_plainId plain_eq_loop _]
    exact lt_loop0 l b m k x y t u t' u' n n2 prog w A R _ ⟨hl, hb, h⟩)⟩
end
section
variable {prog : Program} {w : World} {A : Around} {E : Value → Shared → Prop} {s : Shared}
theorem keylt_list {a b : Addr} {m k : Int} {x y : PySem.Str} {t u t' u' : Tok} {n n2 : Nat} {Q : Bool → Shared → Prop} (hu : A.units < cLine)
    (ha : s.heap.get? a = some (lsObj #[.int m t, .str x u] n)) (hb : s.heap.get? b = some (lsObj #[.int k t', .str y u'] n2)) (h : Q (ltL m x k y) s) :
    wpAny (model prog w) A (keyLt' oneType' (.ref a) (.ref b)) Q E s := by
  rw [keyLt'_oneType, oneLt'_eq]
  simp only [if_true]
  refine wpAny_bind (wpAny_cRoomFor hu ?_)
  refine wpAny_bind (wpAny_callSpecialIfBound?_slot (T := "list") ⟨_, ha, rfl⟩ F.slot_list_lt (call_meets F.slot_list_lt ⟨_, ha, rfl⟩ F.entry_list_lt (F.args_list_lt_2 _ _) (list_lt a b m k x y t u t' u' n n2) ⟨ha, hb, ?_⟩))
  exact wpAny_truthy_bool h
end
end Mine
end
section
open PySem PySem.W PyProof.Rows PySem.Calls
set_option maxRecDepth 100000
set_option maxHeartbeats 4000000
namespace Mine
theorem ltL_cmp (x y : PySem.Str) : ltL (x.length : Int) x (y.length : Int) y = decide (cmpV x y < 0) := by
  unfold ltL cmpV
  by_cases e : x.length = y.length
  · have e' : ¬ (x.length ≠ y.length) := fun h => h e
    rw [if_pos (show (x.length : Int) = y.length by exact_mod_cast e), if_neg e']
    by_cases hxy : x = y
    · subst hxy
      rw [if_pos rfl, if_neg (List.lt_irrefl _), if_neg (List.lt_irrefl _)]; rfl
    · rw [if_neg hxy]
      by_cases h1 : x.cps.toList < y.cps.toList
      · rw [if_pos h1]; simp [h1]
      · rw [if_neg h1]
        by_cases h2 : y.cps.toList < x.cps.toList
        · rw [if_pos h2]; simp [h1]
        · rw [if_neg h2]; simp [h1]
  · rw [if_neg (show ¬ (x.length : Int) = y.length by exact_mod_cast e), if_pos e]
    congr 1
    apply propext
    omega
end Mine
end
section
open PySem PySem.W PyProof.Rows PySem.Calls PyProof.Rows.LCg
namespace Mine
/-- what stands behind an element's run, the ledger kept -/
noncomputable def EltEndN (h₀ : Heap) (L : Addr) (m : PySem.Str → Option Value) (old : List (Addr × Obj)) (h : Heap) (s : Shared) (R : Value → List (Addr × Obj) → Prop) (news : List (Addr × Obj)) (y : Value) (s' : Shared) : Prop :=
  ∃ h' tk' extra, s' = { s with heap := h', toks := tk' } ∧ Fr h₀ L h' m ∧ News h₀ L h' old ∧ (∀ p ∈ extra, h'.get? p.1 = some p.2 ∧ h.get? p.1 = none) ∧ R y (extra ++ news)
section
variable {prog : Program} {w : World} {A : Around} {h₀ : Heap} {L : Addr} {m : PySem.Str → Option Value} {env : Env} {elt : PySem.Expr} {x : PySem.Str} {scope : Scope} {cl : List (PySem.Str × Addr)} {s : Shared}
  {S : List (Addr × Obj) → Prop} {P : Nat → Value → Prop} {Fin : List Value → List (Addr × Obj) → Prop}
theorem comp_restN (R : Nat → Value → List (Addr × Obj) → Prop) (hR : ∀ i y news extra, R i y news → R i y (extra ++ news)) (hS : ∀ news extra, S news → S (extra ++ news))
    (n : Nat) (news₀ : List (Addr × Obj)) (hS₀ : S news₀)
    (turn : ∀ i v C oC m₂ h tk (news more : List (Addr × Obj)) (E' : Value → Shared → Prop), i < n → P i v → NsObj oC m₂ → m₂ x = some v → Fr h₀ L h m → News h₀ L h ((C, oC) :: (more ++ news)) → (∀ p ∈ news, p.1 ≠ C) → (∀ p ∈ news₀, p ∈ news) → S news →
      wpAny (model prog w) A (eval elt (compEnvC scope cl C env)) (EltEndN h₀ L m ((C, oC) :: (more ++ news)) h s (R i) news) E' { s with heap := h, toks := tk })
    (done : ∀ ys news, ys.length = n → (∀ i y, ys[i]? = some y → R i y news) → (∀ p ∈ news₀, p ∈ news) → S news → Fin ys news) :
    CompRest prog w A h₀ L m env elt x scope cl s S P Fin n 0 [] news₀ := by
  suffices H : ∀ (k i : Nat) (ys : List Value) (news : List (Addr × Obj)), i + k = n → ys.length = i → (∀ j y, ys[j]? = some y → R j y news) → (∀ p ∈ news₀, p ∈ news) → S news →
      CompRest prog w A h₀ L m env elt x scope cl s S P Fin k i ys news from
    H n 0 [] news₀ (Nat.zero_add n) rfl (fun j y e => by simp at e) (fun _ hp => hp) hS₀
  intro k
  induction k with
  | zero =>
    intro i ys news hi hl hy hn hs
    exact CompRest.zero (done ys news (by omega) hy hn hs)
  | succ k ih =>
    intro i ys news hi hl hy hn hs
    refine CompRest.succ fun v I oI C oC D m₂ h tk E' hP hoC hm₂ F N off ne => ?_
    have offm := off.mem
    refine wpAny_mono (turn i v C oC m₂ h tk news [(I, oI), (D, lst ys)] E' (by omega) hP hoC hm₂ F (fun p hp => ?_) (fun p hp => (offm p hp).2.1) hn hs) (fun y s' he => ?_) fun _ _ e => e
    · rcases List.mem_cons.mp hp with rfl | hp
      · exact N _ (.tail _ (.head _))
      · rcases List.mem_cons.mp hp with rfl | hp
        · exact N _ (.head _)
        · rcases List.mem_cons.mp hp with rfl | hp
          · exact N _ (.tail _ (.tail _ (.head _)))
          · exact N _ (.tail _ (.tail _ (.tail _ hp)))
    obtain ⟨h', tk', extra, rfl, F', N', hx, hr⟩ := he
    have live : ∀ a o, h.get? a = some o → ∀ p ∈ extra, p.1 ≠ a := fun a o e p hp q => by
      have := (hx p hp).2
      rw [q, e] at this
      cases this
    have NX : News h₀ L h' extra := fun p hp => by
      refine ⟨(hx p hp).1, fun q => ?_, ?_⟩
      · obtain ⟨oL, es, ep, hL, r⟩ := F.ns
        exact live _ _ hL p hp q
      · cases q : h₀.get? p.1 with
        | none => rfl
        | some o' => exact absurd rfl (live _ _ (F.keep _ _ q) p hp)
    refine CompEnd.intro (all := (I, oI) :: (C, oC) :: (D, lst ys) :: (extra ++ news)) F' (fun p hp => ?_) (extra ++ news) (fun p hp => hp) (Off3.of fun p hp => ?_) (hS _ _ hs)
      (ih (i + 1) (ys ++ [y]) (extra ++ news) (by omega) (by simp [hl]) (fun j z e => ?_) (fun p hp => List.mem_append_right _ (hn p hp)) (hS _ _ hs))
    · rcases List.mem_cons.mp hp with rfl | hp
      · exact N' _ (.tail _ (.head _))
      · rcases List.mem_cons.mp hp with rfl | hp
        · exact N' _ (.head _)
        · rcases List.mem_cons.mp hp with rfl | hp
          · exact N' _ (.tail _ (.tail _ (.head _)))
          · rcases List.mem_append.mp hp with hp | hp
            · exact NX p hp
            · exact N' _ (.tail _ (.tail _ (.tail _ hp)))
    · rcases List.mem_append.mp hp with hp | hp
      · exact ⟨live _ _ (N _ (.head _)).1 p hp, live _ _ (N _ (.tail _ (.head _))).1 p hp, live _ _ (N _ (.tail _ (.tail _ (.head _)))).1 p hp⟩
      · exact offm p hp
    · rw [List.getElem?_append] at e
      split at e
      · exact hR _ _ _ _ (hy j z e)
      · rename_i hj
        have hj2 : j = i := by
          have := (List.getElem?_eq_some_iff.mp e).1
          simp at this
          omega
        subst hj2
        rw [hl, Nat.sub_self] at e
        simp at e
        subst e
        exact hr
end
section
variable {prog : Program} {w : World} {A : Around} {E : Value → Shared → Prop} {s : Shared} {h₀ : Heap} {L : Addr} {m : PySem.Str → Option Value} {env : Env}
/-- a comprehension over a text -/
theorem ListComp_S {elt iter : PySem.Expr} {x : PySem.Str} {px : Pos} {scope : Scope} {cl : List (PySem.Str × Addr)} {pos : Pos} {Q : Value → Shared → Prop}
    (_F₀ : Fr h₀ L s.heap m) (hclos : closureFor scope env = pure cl) (hcell : ∀ y ∈ scope.names, y.2 ≠ .cell) (hkind : scope.kind = .function)
    (hnames : ∀ y ∈ scope.names, y.2 = .local → scope.names.lookup y.1 = some .local) (hx : scope.names.lookup x = some .local)
    (h : wpAny (model prog w) A (eval iter env) (fun xv s₁ => ∃ wd t news, xv = .str wd t ∧ A.handled = none ∧ Fr h₀ L s₁.heap m ∧ News h₀ L s₁.heap news ∧ wd.cps.size ≤ sizeLine ∧
      ∀ s₂ : Shared, (∃ h, s₂ = { s₁ with heap := h }) → CompRest prog w A h₀ L m env elt x scope cl s₂ (fun _ => True) (SignAt wd) (FinE h₀ L m s₂ Q) wd.cps.size 0 [] news) E s)
    (hs : ∀ x, foldedSetIterable iter env x = pure x := by intro _; rfl) :
    wpAny (model prog w) A (eval (.ListComp elt [⟨.Name x px, iter, [], 0⟩] scope pos) env) Q E s := by
  rw [eval_ListComp]
  refine wpAny_comprehension_free (use := none) rfl hs hclos hkind hnames (wpAny_mono h (fun xv s₁ h₁ => ?_) fun _ _ e => e)
  obtain ⟨wd, t, news, rfl, hh, F, N, hsz, R⟩ := h₁
  have up : ∀ o b o', s₁.heap.get? b = some o' → (s₁.heap.push o).get? b = some o' := fun o b o' e => Heap.get?_push_of_some _ e
  have main : ∀ (o : Obj) (St : Nat → Heap → Prop), Walks prog w A s₁.heap.objs.size [s₁.heap.objs.size] [s₁.heap.objs.size] wd.cps.size (SignAt wd) St → (∀ i h, St i h → ∃ o, h.get? s₁.heap.objs.size = some o) → St 0 (s₁.heap.push o) →
      wpAny (model prog w) A (newList []) (fun acc s₃ => wpAny (model prog w) A (newFunctionEnv scope env.globals cl [] env.qual none .none (some env)) (fun cenv s₄ =>
        codeAny (model prog w) A (.compStart (.ListComp elt [⟨.Name x px, iter, [], 0⟩] scope pos) 0 (.ref s₁.heap.objs.size) acc { cenv with scope := relabel scope env }) (compPost (model prog w) A E none Q acc cenv.locals) s₄) E s₃) E { s₁ with heap := s₁.heap.push o } := by
    intro o St W hIo hst
    refine block_U (RR := fun acc c => compPost (model prog w) A E none Q acc c) W hsz hIo (fun i h h' o' nw st e e' _ _ _ => W.frame _ _ _ st fun b hb o₂ e₂ => ?_) hcell hkind hx hst (fun b hb => ?_)
      (F.keeps (up o)) (N.grown (up o)) (Nat.ne_of_lt F.ns.lt) (next_is_new F) (fun p hp => Nat.ne_of_lt (Heap.lt_size (N p hp).1)) trivial (R _ ⟨_, rfl⟩) ?_
    · rw [List.mem_singleton.mp hb] at e₂ ⊢
      rw [e] at e₂; cases e₂; exact e'
    · rw [List.mem_singleton.mp hb]
      show s₁.heap.objs.size < (s₁.heap.push _).objs.size
      rw [Heap.size_push]; exact Nat.lt_succ_self _
    · intro D C h tk m' ys news' F' N' o1 hn hC₀ hD₀ hCL hDL hCD offC fin
      refine ⟨m', hn, fun h'' hs'' => fin D h'' tk (F'.change hs'' hCL hC₀) (fun p hp => ?_) o1⟩
      refine ⟨hs''.extBut _ _ ?_ (N' p hp).1, (N' p hp).2⟩
      rcases List.mem_cons.mp hp with rfl | hp
      · exact Ne.symm hCD
      · exact offC p hp
  cases ha : wd.cps.all (· < 128)
  · refine wpAny_pyIter_wide ha ?_
    refine main _ _ (Walks.strWide hh _ wd t) (fun i h ⟨o, e, _⟩ => ⟨o, e⟩) ⟨_, Heap.get?_push_size _ rfl, rfl, rfl⟩
  · refine wpAny_pyIter_ascii ha ?_
    refine main _ _ (Walks.strAscii hh _ wd t) (fun i h ⟨o, e, _⟩ => ⟨o, e⟩) ⟨_, Heap.get?_push_size _ rfl, rfl, rfl⟩
end
end Mine
end
section
open PySem PySem.W PyProof.Rows PySem.Calls PyProof.Rows.LCg
set_option maxRecDepth 100000
namespace Mine
/-- the law's def, read off the written heap -/
noncomputable def lFd (P : Params) : Option FuncData := match (hdT.heap_1 P).lookup 82 with
  | some ⟨_, _, .func fd, _⟩ => some fd
  | _ => none
noncomputable def lBody (P : Params) : List Stmt := match lFd P with
  | some fd => (match fd.body with | .stmts b => b | _ => [])
  | none => []
noncomputable def lSc (P : Params) : Scope := match lFd P with
  | some fd => fd.scope
  | none => { kind := .function, names := [], isGenerator := false, isCoroutine := false }
noncomputable abbrev lEnv (P : Params) (L : Addr) : Env := envOfC (Str.ofString "law") (lSc P) L 82 (.ref 81)
noncomputable abbrev lTabs : List (Addr × Addr) := [(20, 16), (81, 79)]
theorem srcAt_app {h₀ : Heap} {ax : Addr} {its : Array Value} {news extra : List (Addr × Obj)} : SrcAt h₀ ax its news → SrcAt h₀ ax its (extra ++ news)
  | .inl h => .inl h
  | .inr ⟨o, hm, r⟩ => .inr ⟨o, List.mem_append_right _ hm, r⟩
theorem news_pick {h₀ h : Heap} {L : Addr} {news all : List (Addr × Obj)} (N : News h₀ L h news) (hs : ∀ p ∈ all, p ∈ news) : News h₀ L h all := fun p hp => N p (hs p hp)
theorem str_at {l : List (PySem.Str × Tok)} {i : Nat} {v : Value} (h : (strValues l)[i]? = some v) : ∃ x t, l[i]? = some (x, t) ∧ v = .str x t := by
  unfold strValues at h
  rw [List.getElem?_map] at h
  cases e : l[i]? with
  | none => rw [e] at h; cases h
  | some p => rw [e] at h; cases h; exact ⟨p.1, p.2, rfl, rfl⟩
end Mine
namespace Mine
/-- the lambda of the last statement -/
noncomputable def lLam (P : Params) : Arguments × PySem.Expr × Scope := match ((lBody P)[4]? : Option Stmt) with
  | some (.Return (some (.Compare _ _ [.Call _ _ [kw] _] _)) _) => (match kw.value with
    | .Lambda ps b sc _ => (ps, b, sc)
    | _ => (⟨[], [], none, [], [], none, []⟩, .Constant .none 0 default, { kind := .function, names := [], isGenerator := false, isCoroutine := false }))
  | _ => (⟨[], [], none, [], [], none, []⟩, .Constant .none 0 default, { kind := .function, names := [], isGenerator := false, isCoroutine := false })
end Mine
end
section
open PySem PySem.W PyProof.Rows PySem.Calls PyProof.Rows.LCg
set_option maxRecDepth 100000
namespace Mine
noncomputable def wOk (l : List (PySem.Str × Tok)) : Prop := (∀ x ∈ l, Ltr x.1.cps.toList ∧ x.1.length ≤ 1000) ∧ 3 ≤ l.length ∧ l.length ≤ 6
/-- the normal forms of the words -/
structure Nf (l : List (PySem.Str × Tok)) (vs : List (List Nat)) : Prop where
  len : vs.length = l.length
  at' : ∀ (i : Nat) (x : PySem.Str × Tok) (v : List Nat), l[i]? = some x → vs[i]? = some v → v ∈ nf24 ∧ ∀ q : R4, v.foldl st q = x.1.cps.toList.foldl st q
noncomputable def up1 (v : List Nat) : List Nat := v.map (· + 1)
theorem shorts_of : ∀ (ys : List Value) (l : List (PySem.Str × Tok)), ys.length = l.length →
    (∀ (i : Nat) y, ys[i]? = some y → ∃ x v t, l[i]? = some x ∧ y = .str (S (up1 v)) t ∧ v ∈ nf24 ∧ ∀ q : R4, v.foldl st q = x.1.cps.toList.foldl st q) →
    ∃ (ls : List (PySem.Str × Tok)) (vs : List (List Nat)), ys = strValues ls ∧ ls.map (·.1) = vs.map (fun v => S (up1 v)) ∧ Nf l vs
  | [], [], _, _ => ⟨[], [], rfl, rfl, rfl, fun i x v h => by cases h⟩
  | [], _ :: _, h, _ => by cases h
  | _ :: _, [], h, _ => by cases h
  | y :: ys, x :: l, hl, h => by
    obtain ⟨x', v, t, hx, rfl, hv, ha⟩ := h 0 _ rfl
    cases hx
    obtain ⟨ls, vs, e1, e2, N⟩ := shorts_of ys l (by simpa using hl) fun i z e => by simpa using h (i + 1) z (by simpa using e)
    refine ⟨(S (up1 v), t) :: ls, v :: vs, by rw [e1]; rfl, by rw [List.map_cons, e2]; rfl, by simp [N.len], fun i x₂ v₂ hx hv₂ => ?_⟩
    cases i with
    | zero => cases hx; cases hv₂; exact ⟨hv, ha⟩
    | succ i => exact N.at' i x₂ v₂ (by simpa using hx) (by simpa using hv₂)
theorem dues_of : ∀ (ys : List Value) (vs : List (List Nat)), ys.length = vs.length →
    (∀ (i : Nat) y, ys[i]? = some y → ∃ v t, vs[i]? = some v ∧ y = .str (S v) t) → ∃ ld : List (PySem.Str × Tok), ys = strValues ld ∧ ld.map (·.1) = vs.map S
  | [], [], _, _ => ⟨[], rfl, rfl⟩
  | [], _ :: _, h, _ => by cases h
  | _ :: _, [], h, _ => by cases h
  | y :: ys, x :: l, hl, h => by
    obtain ⟨v, t, hx, rfl⟩ := h 0 _ rfl
    cases hx
    obtain ⟨ls, e1, e2⟩ := dues_of ys l (by simpa using hl) fun i z e => by simpa using h (i + 1) z (by simpa using e)
    exact ⟨(S x, t) :: ls, by rw [e1]; rfl, by rw [List.map_cons, e2]; rfl⟩
end Mine
end
section
open PySem PySem.W PyProof.Rows PySem.Calls PyProof.V PySem.Spec PySem.SeqAt
set_option maxRecDepth 100000
namespace Mine
theorem eqvAll_strs : ∀ l : List PySem.Str, PyData.eqvAll (l.map PyData.str) (l.map PyData.str) = true
  | [] => by simp [PyData.eqvAll]
  | a :: r => by simp [PyData.eqvAll, PyData.eqv, eqvAll_strs r]
theorem layAll_strs : ∀ l : List PySem.Str, (∀ x ∈ l, PyData.strOk x = true) → PyData.canLayAll0 (l.map PyData.str) = true
  | [], _ => by simp [PyData.canLayAll0]
  | n :: r, h => by simp [PyData.canLayAll0, PyData.canLay0, layAll_strs r fun x hx => h x (.tail _ hx), h n (.head _)]
theorem depAll_strs : ∀ l : List PySem.Str, PyData.depthAll (l.map PyData.str) ≤ 1
  | [] => by simp [PyData.depthAll]
  | n :: r => by
    have := depAll_strs r
    simp only [List.map_cons, PyData.depthAll, PyData.depth]
    omega
theorem shaped_strs (l : List PySem.Str) (hok : ∀ x ∈ l, PyData.strOk x = true) : shaped (.list (l.map PyData.str)) = true := by
  have h1 := depAll_strs l
  have h2 : PyData.depth (.list (l.map PyData.str)) ≤ 64 := by simp only [PyData.depth]; omega
  show (PyData.canLay0 (.list (l.map PyData.str)) && decide (PyData.depth (.list (l.map PyData.str)) ≤ 64)) = true
  rw [Bool.and_eq_true]
  exact ⟨by simp only [PyData.canLay0]; exact layAll_strs l hok, decide_eq_true h2⟩
theorem readsAll_strs {h : Heap} : ∀ l : List (PySem.Str × Tok), ReadsAll h (strValues l) ((l.map (·.1)).map PyData.str) []
  | [] => .nil
  | x :: r => by
    have := ReadsAll.cons (Reads.str (h := h) x.1 x.2) (readsAll_strs (h := h) r)
    rw [List.nil_append] at this
    exact this
theorem reads_strs {h : Heap} {a : Addr} {l : List (PySem.Str × Tok)} (hl : h.IsList a (strValues l).toArray) : Reads h (.ref a) (.list ((l.map (·.1)).map PyData.str)) [a] := by
  obtain ⟨o, ho, hc, n, hd⟩ := hl
  exact Reads.list ho hc hd (by simpa using readsAll_strs l)
noncomputable def rowD (q : R4) : PyData := .list [.int q.1, .int q.2.1, .int q.2.2.1, .int q.2.2.2]
theorem eqvAll_rows : ∀ l : List R4, PyData.eqvAll (l.map rowD) (l.map rowD) = true
  | [] => by simp [PyData.eqvAll]
  | a :: r => by simp [PyData.eqvAll, PyData.eqv, rowD, eqvAll_rows r]
theorem layAll_rows : ∀ l : List R4, PyData.canLayAll0 (l.map rowD) = true
  | [] => by simp [PyData.canLayAll0]
  | n :: r => by simp [PyData.canLayAll0, PyData.canLay0, rowD, layAll_rows r]
theorem depAll_rows : ∀ l : List R4, PyData.depthAll (l.map rowD) ≤ 2
  | [] => by simp [PyData.depthAll]
  | n :: r => by
    have := depAll_rows r
    simp only [List.map_cons, PyData.depthAll, PyData.depth, rowD]
    omega
theorem shaped_rows (l : List R4) : shaped (.list (l.map rowD)) = true := by
  have h1 := depAll_rows l
  have h2 : PyData.depth (.list (l.map rowD)) ≤ 64 := by simp only [PyData.depth]; omega
  show (PyData.canLay0 (.list (l.map rowD)) && decide (PyData.depth (.list (l.map rowD)) ≤ 64)) = true
  rw [Bool.and_eq_true]
  exact ⟨by simp only [PyData.canLay0]; exact layAll_rows l, decide_eq_true h2⟩
theorem reads_row {h : Heap} {r : Addr} {q : R4} (H : RowAt h r q) : Reads h (.ref r) (rowD q) [r] := by
  obtain ⟨_, ho, ta, tb, tc, td, n, rfl⟩ := H
  refine Reads.list ho rfl rfl ?_
  have := ReadsAll.cons (Reads.int (h := h) q.1 ta) (ReadsAll.cons (Reads.int (h := h) q.2.1 tb) (ReadsAll.cons (Reads.int (h := h) q.2.2.1 tc) (ReadsAll.cons (Reads.int (h := h) q.2.2.2 td) .nil)))
  simpa using this
/-- a list of rows -/
theorem readsAll_rows {h : Heap} : ∀ (ys : List Value) (qs : List R4), ys.length = qs.length → (∀ (i : Nat) y q, ys[i]? = some y → qs[i]? = some q → ∃ r, y = .ref r ∧ RowAt h r q) → ∃ as, ReadsAll h ys (qs.map rowD) as
  | [], [], _, _ => ⟨_, .nil⟩
  | [], _ :: _, h, _ => by cases h
  | _ :: _, [], h, _ => by cases h
  | y :: ys, q :: qs, hl, hh => by
    obtain ⟨r, rfl, H⟩ := hh 0 _ _ rfl rfl
    obtain ⟨as, R⟩ := readsAll_rows ys qs (by simpa using hl) fun i z p e1 e2 => hh (i + 1) z p (by simpa using e1) (by simpa using e2)
    exact ⟨_, ReadsAll.cons (reads_row H) R⟩
section
variable {prog : Program} {w : World} {A : Around} {E : Value → Shared → Prop} {s : Shared}
theorem eq_strs {a b : Addr} {x y : List (PySem.Str × Tok)} {Q : Value → Shared → Prop} (ha : s.heap.IsList a (strValues x).toArray) (hb : s.heap.IsList b (strValues y).toArray) (e : x.map (·.1) = y.map (·.1)) (hok : ∀ z ∈ x.map (·.1), PyData.strOk z = true) (hu : A.units + 64 < cLine) (h : Q (.bool true) s) :
    wpAny (model prog w) A (compareOp .Eq (.ref a) (.ref b)) Q E s := by
  have rb := reads_strs hb
  rw [← e] at rb
  refine eq_dataH (reads_strs ha) rb (shaped_strs _ hok) (shaped_strs _ hok) hu ?_
  rw [show PyData.eqv (.list ((x.map (·.1)).map PyData.str)) (.list ((x.map (·.1)).map PyData.str)) = true by rw [PyData.eqv]; exact eqvAll_strs _]
  exact h
theorem ne_strs {a b : Addr} {x y : List (PySem.Str × Tok)} {Q : Value → Shared → Prop} (ha : s.heap.IsList a (strValues x).toArray) (hb : s.heap.IsList b (strValues y).toArray) (e : x.map (·.1) = y.map (·.1)) (hok : ∀ z ∈ x.map (·.1), PyData.strOk z = true) (hu : A.units + 64 < cLine) (h : Q (.bool false) s) :
    wpAny (model prog w) A (compareOp .NotEq (.ref a) (.ref b)) Q E s := by
  have rb := reads_strs hb
  rw [← e] at rb
  refine ne_dataH (reads_strs ha) rb (shaped_strs _ hok) (shaped_strs _ hok) hu ?_
  rw [show PyData.eqv (.list ((x.map (·.1)).map PyData.str)) (.list ((x.map (·.1)).map PyData.str)) = true by rw [PyData.eqv]; exact eqvAll_strs _]
  exact h
theorem ne_rows {a b : Addr} {xs ys : List Value} {qs : List R4} {Q : Value → Shared → Prop} (ha : s.heap.IsList a xs.toArray) (hb : s.heap.IsList b ys.toArray) (l1 : xs.length = qs.length) (l2 : ys.length = qs.length)
    (h1 : ∀ (i : Nat) y q, xs[i]? = some y → qs[i]? = some q → ∃ r, y = .ref r ∧ RowAt s.heap r q) (h2 : ∀ (i : Nat) y q, ys[i]? = some y → qs[i]? = some q → ∃ r, y = .ref r ∧ RowAt s.heap r q) (hu : A.units + 64 < cLine) (h : Q (.bool false) s) :
    wpAny (model prog w) A (compareOp .NotEq (.ref a) (.ref b)) Q E s := by
  obtain ⟨as, ra⟩ := readsAll_rows xs qs l1 h1
  obtain ⟨bs, rb⟩ := readsAll_rows ys qs l2 h2
  obtain ⟨o, ho, hc, n, hd⟩ := ha
  obtain ⟨o', ho', hc', n', hd'⟩ := hb
  refine ne_dataH (Reads.list ho hc hd (by simpa using ra)) (Reads.list ho' hc' hd' (by simpa using rb)) (shaped_rows qs) (shaped_rows qs) hu ?_
  rw [show PyData.eqv (.list (qs.map rowD)) (.list (qs.map rowD)) = true by simp [PyData.eqv, eqvAll_rows]]
  exact h
end
end Mine
end
section
open PySem PySem.W PyProof.Rows PySem.Calls
set_option maxRecDepth 100000
namespace Mine
noncomputable abbrev kRk (w : World) (k : KAd) : List (Addr × Obj) := kR w k.x k.tt k.bT k.sl k.fI k.fL k.fG k.fE k.fF k.fH k.st k.t k.tk k.ns k.C k.md k.so k.bm
noncomputable def kFns (w : World) (k : KAd) (oI oL : Obj) : List (Addr × Obj) :=
  [(k.fI, fnO (.func (mFd w.params 2 (Str.ofString "__init__") [] .none (.ref k.cI) k.pI))), (k.fL, fnO (.func (mFd w.params 3 (Str.ofString "__lt__") [(Str.ofString "mycmp", k.cell)] (.ref k.ctL) (.ref k.cL) k.pL))), (k.cI, oI), (k.cL, oL), (k.cell, k.oc)]
/-- the parts of the class -/
noncomputable def kObjs (w : World) (k : KAd) (oI oL : Obj) : List (Addr × Obj) := kRk w k ++ kFns w k oI oL
structure KL (w : World) (k : KAd) (oI oL : Obj) : Prop where
  nd : ((kRk w k).map (·.1)).Nodup
  nI : nameAt oI = some (Str.ofString "cmp_to_key.<locals>.K." ++ Str.ofString "__init__")
  nL : nameAt oL = some (Str.ofString "cmp_to_key.<locals>.K." ++ Str.ofString "__lt__")
  cellD : k.oc.data = .cell (some (.ref 63))
  big : 83 ≤ k.C
theorem nameAt_of {h : Heap} {c : Addr} {q : PySem.Str} (H : h.CodeRec (.ref c) q) : ∃ o, h.get? c = some o ∧ nameAt o = some q := by
  obtain ⟨c', o, vs, t, e, ho, hd, hv⟩ := H
  cases e
  exact ⟨o, ho, by unfold nameAt; rw [hd]; dsimp only; rw [hv]⟩
theorem KAt.led {w : World} {h : Heap} {k : KAd} (M : KAt w h k) : ∃ oI oL, KL w k oI oL ∧ ∀ p ∈ kObjs w k oI oL, h.get? p.1 = some p.2 := by
  obtain ⟨oI, gI, nI⟩ := nameAt_of M.codeI
  obtain ⟨oL, gL, nL⟩ := nameAt_of M.codeL
  refine ⟨oI, oL, ⟨M.nd, nI, nL, M.cellD, M.big⟩, fun p hp => ?_⟩
  rcases List.mem_append.mp hp with hp | hp
  · exact M.cls p hp
  · unfold kFns at hp
    simp only [List.mem_cons, List.not_mem_nil, or_false] at hp
    rcases hp with rfl | rfl | rfl | rfl | rfl
    · exact M.fI
    · exact M.fL
    · exact gI
    · exact gL
    · exact M.cell
theorem KNew.objs {w : World} {n : Nat} {k : KAd} (Nw : KNew w n k) (oI oL : Obj) : ∀ p ∈ kObjs w k oI oL, n ≤ p.1 := fun p hp => by
  rcases List.mem_append.mp hp with hp | hp
  · exact Nw.cls p hp
  · unfold kFns at hp
    simp only [List.mem_cons, List.not_mem_nil, or_false] at hp
    rcases hp with rfl | rfl | rfl | rfl | rfl
    · exact Nw.fI
    · exact Nw.fL
    · exact Nw.cI
    · exact Nw.cL
    · exact Nw.cell
theorem KL.at {w : World} {h : Heap} {k : KAd} {oI oL : Obj} (K : KL w k oI oL) (kin : (kk w.params).In h) (N : ∀ p ∈ kObjs w k oI oL, h.get? p.1 = some p.2) : KAt w h k where
  kin := kin
  cls := fun p hp => N p (List.mem_append_left _ hp)
  nd := K.nd
  fI := N _ (List.mem_append_right _ (.head _))
  fL := N _ (List.mem_append_right _ (.tail _ (.head _)))
  codeI := codeRec_at (N _ (List.mem_append_right _ (.tail _ (.tail _ (.head _))))) K.nI
  codeL := codeRec_at (N _ (List.mem_append_right _ (.tail _ (.tail _ (.tail _ (.head _)))))) K.nL
  cell := N _ (List.mem_append_right _ (.tail _ (.tail _ (.tail _ (.tail _ (.head _))))))
  cellD := K.cellD
  big := K.big
end Mine
end
section
open PySem PySem.W PyProof.Rows PySem.Calls
set_option maxRecDepth 100000
set_option maxHeartbeats 1000000
namespace Mine
noncomputable def leafT {α : Type} (f : α → Bool) : KasT α → Bool
  | .ret a => f a
  | .ask _ _ k => leafT f (k true) && leafT f (k false)
theorem runT_leaf {α : Type} (lt : Nat → Nat → Bool) (f : α → Bool) : ∀ t : KasT α, leafT f t = true → f (runT lt t) = true
  | .ret a, h => h
  | .ask i j k, h => by
    unfold leafT at h
    rw [Bool.and_eq_true] at h
    show f (runT lt (k (lt i j))) = true
    cases lt i j with
    | true => exact runT_leaf lt f (k true) h.1
    | false => exact runT_leaf lt f (k false) h.2
noncomputable def goodP (n : Nat) (p : Array Nat) : Bool := Nat.ble p.size 100 && p.toList.all fun i => Nat.blt i n
theorem sort_sz3 : leafT (goodP 3) (kas_sort 3) = true := by decide +kernel
theorem sort_sz4 : leafT (goodP 4) (kas_sort 4) = true := by decide +kernel
theorem sort_sz5 : leafT (goodP 5) (kas_sort 5) = true := by decide +kernel
theorem sort_sz6 : leafT (goodP 6) (kas_sort 6) = true := by decide +kernel
theorem goodP_of {n : Nat} {p : Array Nat} (h : goodP n p = true) : p.size ≤ 100 ∧ ∀ i ∈ p.toList, i < n := by
  unfold goodP at h
  rw [Bool.and_eq_true] at h
  exact ⟨Nat.le_of_ble_eq_true h.1, fun i hi => Nat.le_of_ble_eq_true (List.all_eq_true.mp h.2 i hi)⟩
theorem sort_facts {n : Nat} (h3 : 3 ≤ n) (h6 : n ≤ 6) (lt : Nat → Nat → Bool) : okT n (kas_sort n) = true ∧ (runT lt (kas_sort n)).size ≤ 100 ∧ ∀ i ∈ (runT lt (kas_sort n)).toList, i < n := by
  rcases (by omega : n = 3 ∨ n = 4 ∨ n = 5 ∨ n = 6) with rfl | rfl | rfl | rfl
  · exact ⟨sort_ok3, goodP_of (runT_leaf lt _ _ sort_sz3)⟩
  · exact ⟨sort_ok4, goodP_of (runT_leaf lt _ _ sort_sz4)⟩
  · exact ⟨sort_ok5, goodP_of (runT_leaf lt _ _ sort_sz5)⟩
  · exact ⟨sort_ok6, goodP_of (runT_leaf lt _ _ sort_sz6)⟩
/-- the order of the words -/
noncomputable def ltS (ls : List (PySem.Str × Tok)) (i j : Nat) : Bool := decide (cmpV (ls.getD i (Str.ofString "", 0)).1 (ls.getD j (Str.ofString "", 0)).1 < 0)
theorem strs_getD {ls : List (PySem.Str × Tok)} {i : Nat} (h : i < ls.length) : (strValues ls).getD i .none = .str (ls.getD i (Str.ofString "", 0)).1 (ls.getD i (Str.ofString "", 0)).2 := by
  unfold strValues
  simp [h]
theorem getD_mem {ls : List (PySem.Str × Tok)} {i : Nat} {d : PySem.Str × Tok} (h : i < ls.length) : ls.getD i d ∈ ls := by
  rw [List.getD_eq_getElem?_getD, List.getElem?_eq_getElem h]
  exact List.getElem_mem h
/-- the words in their order -/
noncomputable def srt (ls : List (PySem.Str × Tok)) : List (PySem.Str × Tok) := (runT (ltS ls) (kas_sort ls.length)).toList.map fun i => ls.getD i (Str.ofString "", 0)
theorem srt_vals {ls : List (PySem.Str × Tok)} (h3 : 3 ≤ ls.length) (h6 : ls.length ≤ 6) : ((runT (ltS ls) (kas_sort (strValues ls).length)).toList.map fun i => (strValues ls).getD i .none) = strValues (srt ls) := by
  have hz : (strValues ls).length = ls.length := by simp [strValues]
  rw [hz]
  have e : strValues (srt ls) = (srt ls).map fun q => .str q.1 q.2 := by unfold strValues; rfl
  rw [e]
  unfold srt
  rw [List.map_map]
  exact List.map_congr_left fun i hi => strs_getD ((sort_facts h3 h6 _).2.2 i hi)
theorem srt_mem {ls : List (PySem.Str × Tok)} (h3 : 3 ≤ ls.length) (h6 : ls.length ≤ 6) : ∀ x ∈ srt ls, x ∈ ls := fun x hx => by
  obtain ⟨i, hi, rfl⟩ := List.mem_map.mp hx
  exact getD_mem ((sort_facts h3 h6 _).2.2 i hi)
section
variable {prog : Program} {w : World} {A : Around} {E : Value → Shared → Prop} {s : Shared} {K : Frag} {x C f : Addr} {ox : Obj} {od : Option Obj} {b : Value} {Q : Bool → Shared → Prop}
theorem key_lt_inst (hu : A.units < cLine) (X : K.In s.heap) (I : InstAt s.heap x ox C od) (hs : findIn K (.ref C) "__lt__" = some (some (.ref f))) (hf : PySem.W.isFn K (.ref f) = true)
    (h : wpAny (model prog w) A (call (.ref f) [.ref x, b]) (W.BoolBack Q) E s) : wpAny (model prog w) A (keyLt' oneType' (.ref x) b) Q E s := by
  rw [keyLt'_oneType, oneLt'_eq]
  simp only [if_true]
  refine wpAny_bind (wpAny_cRoomFor hu ?_)
  refine wpAny_bind (ifBound_K X I hs hf (wpAny_mono h (fun v s' hv => ?_) fun _ _ e => e))
  cases v <;> first | exact hv.elim | skip
  exact wpAny_truthy_bool hv
end
/-- the made key of the i-th word -/
noncomputable def isKey (ls : List (PySem.Str × Tok)) (k : KAd) (i : Nat) (y : Value) (own : List (Addr × Obj)) : Prop :=
  ∃ x dx od, y = .ref x ∧ (x, ({ instObj k.C dx with slots := #[some ((strValues ls).getD i .none)] } : Obj)) ∈ own ∧ (dx, od) ∈ own
theorem isKey.inst {ls : List (PySem.Str × Tok)} {k : KAd} {i : Nat} {y : Value} {own : List (Addr × Obj)} {G h : Heap} {L : Addr} {news : List (Addr × Obj)} (H : isKey ls k i y own) (N : News G L h (own ++ news)) : ∃ x, y = .ref x ∧ KInst h k x ((strValues ls).getD i .none) := by
  obtain ⟨x, dx, od, e, m1, m2⟩ := H
  exact ⟨x, e, _, dx, od, (N _ (List.mem_append_left _ m1)).1, rfl, (N _ (List.mem_append_left _ m2)).1⟩
theorem keys_at {keys : Array Value} {n i : Nat} (h : keys.size = n) (hi : i < n) : keys.toList[i]? = some (keys.getD i .none) := by
  subst h
  rw [Array.getElem?_toList, Array.getElem?_eq_getElem hi]
  unfold Array.getD
  rw [dif_pos hi]; rfl
theorem sort_K (w : World) {p : Program} {loose : List PySem.Str} (mean mg mb) (dp un : Nat) (fr : Option (List Env)) (gd : Option (List Code)) (s : Shared) (G : Heap) (L' : Addr) (m : PySem.Str → Option Value) (news : List (Addr × Obj)) (k : KAd) (oI oL : Obj) (l : Addr) (ls : List (PySem.Str × Tok)) (Q : Value → Shared → Prop) (E : Value → Shared → Prop)
    (hA : dp + 25 < recursionLimit) (hu : un + 100 < cLine) (X : (hdT.heap_1 w.params).In G) (XX : (kk w.params).In G) (T : Top p loose mean mg mb G) (F : Fr G L' s.heap m) (N : News G L' s.heap news) (hk : ∀ p ∈ kObjs w k oI oL, p ∈ news) (K : KL w k oI oL)
    (hl : s.heap.IsList l (strValues ls).toArray) (h3 : 3 ≤ ls.length) (h6 : ls.length ≤ 6) (hlen : ∀ x ∈ ls, x.1.length < 1000)
    (h : ∀ D h' tk c, Fr G L' h' m → News G L' h' ((D, seqObj "list" (strValues (srt ls)).toArray c) :: news) → (∀ p ∈ news, p.1 < D) → Q (.ref D) { s with heap := h', toks := tk }) :
    wpAny (model Challenge.rw_pe0052_01.row.prog w) { handled := none, depth := dp, frames := fr, guards := gd, units := un } (call (.builtin "sorted") [.ref l] [(Str.ofString "key", .ref k.C)]) Q E s := by
  have hz : (strValues ls).length = ls.length := by simp [strValues]
  obtain ⟨hok, hsz, _⟩ := sort_facts (n := (strValues ls).length) (by omega) (by omega) (ltS ls)
  rw [← srt_vals h3 h6] at h
  refine key_sorted (T := .ref k.C) (lt := ltS ls) (R := isKey ls k) F N hl (by omega) (by omega) hok hsz ?_ ?_ ?_ ?_ rfl ?_ ?_ h
  · rintro i y own extra ⟨x, dx, od, e, m1, m2⟩
    exact ⟨x, dx, od, e, List.mem_append_right _ m1, List.mem_append_right _ m2⟩
  · rintro i y own extra ⟨x, dx, od, e, m1, m2⟩
    exact ⟨x, dx, od, e, List.mem_append_left _ m1, List.mem_append_left _ m2⟩
  · intro i v hv h1 tk1 F1 N1
    have M : KAt w h1 k := K.at (XX.keeps F1.keep) fun p hp => (N1 p (hk p hp)).1
    have ev : (strValues ls).getD i .none = v := by rw [List.getD_eq_getElem?_getD, hv]; rfl
    refine k_call w _ _ _ _ { s with heap := h1, toks := tk1 } k v _ _ ?_ (T.keeps F1.keep).nolimit M ?_
    · show dp + 10 < _; omega
    · intro h2 tk2 x ks kz dx od n1 n2 e1 e2
      refine ⟨h2, tk2, [(x, { instObj k.C dx with slots := #[some v] }), (dx, od)], rfl, ks, ?_, x, dx, od, rfl, ?_, .tail _ (.head _)⟩
      · exact List.forall_mem_cons.mpr ⟨⟨e1, n1⟩, List.forall_mem_singleton.mpr ⟨e2, n2⟩⟩
      · rw [ev]; exact .head _
  · intro keys own h1 hs hy F1 N1 v hv
    obtain ⟨j, hj⟩ := List.getElem?_of_mem hv
    obtain ⟨x, rfl, ox, dx, od, e1, e2, e3⟩ := (hy j v hj).inst N1
    subst e2
    exact (Looks.ld e1).andThen .now
  · simp
  · intro keys own hs hy i j h1 tk1 C hi hj F1 N1 hC
    obtain ⟨x, ex, I1⟩ := (hy i _ (keys_at hs hi)).inst N1
    obtain ⟨y, ey, I2⟩ := (hy j _ (keys_at hs hj)).inst N1
    rw [ex, ey]
    rw [strs_getD (hz ▸ hi)] at I1
    rw [strs_getD (hz ▸ hj)] at I2
    have M : KAt w h1 k := K.at (XX.keeps F1.keep) fun p hp => (N1 p (List.mem_append_right _ (hk p hp))).1
    obtain ⟨ox, od, I, _⟩ := I1.inst
    refine key_lt_inst ?_ (fragH_in h1) I M.facts.lt M.facts.isFn ?_
    · show un + 1 + 1 < cLine; omega
    · refine k_lt w mean mg mb _ _ _ _ { s with heap := h1, toks := tk1 } k x y _ _ _ _ _ _ ?_ ?_ (X.keeps F1.keep) (T.keeps F1.keep) M I1 I2 ?_ ?_ ?_
      · show dp + 20 < _; omega
      · show un + 1 + 1 + 40 < cLine; omega
      · exact hlen _ (getD_mem (hz ▸ hi))
      · exact hlen _ (getD_mem (hz ▸ hj))
      · intro h2 tk2 ks kz
        exact hC h2 tk2 ks
end Mine
end
section
open PySem PySem.W PyProof.Rows PySem.Calls
set_option maxRecDepth 100000
set_option maxHeartbeats 1000000
namespace Mine
section
variable {prog : Program} {w : World} {A : Around} {E : Value → Shared → Prop} {s : Shared} {Q : Value → Shared → Prop}
theorem enter_lam {name qual : PySem.Str} {params : Arguments} {body : PySem.Expr} {scope : Scope} {pm ct : Value} {f c' : Addr} {pos : List Value} {binds : List (PySem.Str × Value)}
    (ho : s.heap.get? f = some (kla_obj name qual params body scope [] pm c' ct)) (hcd : s.heap.CodeRec (.ref c') qual) (hlim : s.heap.NoLimit) (hroom : A.depth < recursionLimit)
    (hbind : bindArgs (kla_fn name qual params body scope [] pm (.ref c') ct) ⟨pos, []⟩ = pure binds) (hlocb : (binds.all fun y => scope.names.lookup y.1 == some .local) = true)
    (h : ∀ L' h₁, Fr s.heap L' h₁ (fun y => binds.reverse.lookup y) → News s.heap L' h₁ [] →
      wpAny (model prog w) (A.deeper (envX qual scope L' f (.ref c') [])) (eval body (envX qual scope L' f (.ref c') [])) Q (fun _ _ => False) { s with heap := h₁, toks := s.toks + binds.length })
    (hcell : (scope.names.all fun x => x.2 != .cell) = true) (hco : scope.isCoroutine = false) (hgen : scope.isGenerator = false) (hk : scope.kind = .function) :
    wpAny (model prog w) A (call (.ref f) pos) Q E s := by
  have hloc : ∀ y ∈ binds, scope.names.lookup y.1 = some .local := fun y hy => beq_iff_eq.mp (List.all_eq_true.mp hlocb y hy)
  have hcell' : ∀ x ∈ scope.names, x.2 ≠ .cell := fun x hx => by
    have := List.all_eq_true.mp hcell x hx
    simpa using this
  refine wpAny_call ?_
  refine kla_callFunE hroom ho rfl hco hgen rfl hcd ?_
  rw [hbind]
  refine wpAny_pure (wpAny_newFunctionEnv hcell' hloc (fun h₁ hns hsb => ⟨hlim.fresh _ hsb, ?_⟩) hk)
  show codeAny _ _ (.expr body (envX qual scope s.heap.objs.size f (.ref c') [])) _ _
  have hk₁ : ∀ b o, s.heap.get? b = some o → h₁.get? b = some o := fun b o e => hsb.extBut b o (Nat.ne_of_lt (Heap.lt_size e)) (Heap.get?_push_of_some _ e)
  exact kla_codeExpr (wpAny_mono (h s.heap.objs.size h₁ ⟨hns, hk₁, Nat.le_refl _⟩ (fun p hp => nomatch hp)) (fun v s' hl => hl) fun _ _ y => y.elim)
end
section
local macro_rules | `(tactic| walk_at "call builtin:len") => `(tactic| (k_here; (with_reducible show wpAny _ _ (call (Value.builtin "len") [Value.str _ _]) _ _ _); (refine len_str (by omega) ?_)))
theorem lam_sp (w : World) {p : Program} {loose : List PySem.Str} (mean mg mb) (dp un : Nat) (fr : Option (List Env)) (gd : Option (List Code)) (s : Shared) (qual : PySem.Str) (pm ct : Value) (f' c' : Addr) (x : PySem.Str) (tx : Tok) (Q : Value → Shared → Prop) (E : Value → Shared → Prop)
    (hA : dp + 5 < recursionLimit) (X : (hdT.heap_1 w.params).In s.heap) (T : Top p loose mean mg mb s.heap)
    (ho : s.heap.get? f' = some (kla_obj (Str.ofString "<lambda>") qual (lLam w.params).1 (lLam w.params).2.1 (lLam w.params).2.2 [] pm c' ct)) (hcd : s.heap.CodeRec (.ref c') qual) (hx : x.length < 1000)
    (hret : ∀ h' tk' y t u n, s.heap.StaysIn h' → s.heap.get? y = none → h'.get? y = some (lsObj #[.int (x.length : Int) t, .str x u] n) → Q (.ref y) ⟨h', s.gens, s.drawn, tk', s.os⟩) :
    wpAny (model Challenge.rw_pe0052_01.row.prog w) { handled := none, depth := dp, frames := fr, guards := gd, units := un } (call (.ref f') [.str x tx]) Q E s := by
  w_on
  revert X hret; k_fill; intro X hret
  obtain ⟨h0, g0, dr0, tk0, os0⟩ := s
  dsimp only at X T ho hcd hret
  refine enter_lam (s := ⟨h0, g0, dr0, tk0, os0⟩) (binds := [(Str.ofString "word", .str x tx)]) ho hcd T.nolimit (by show dp < _; omega) ?k1 ?k2 ?_ ?k3 ?k4 ?k5 ?k6
  case k1 => kernel_rfl!
  case k2 => kernel_rfl!
  case k3 => kernel_rfl!
  case k4 => kernel_rfl!
  case k5 => kernel_rfl!
  case k6 => kernel_rfl!
  intro L' h₁ F N
  dsimp only at F N ⊢
  conv in (lLam w.params).2.1 => whnf
  conv in (occs := *) (lLam w.params).2.2 => all_goals whnf
  clear ho hcd
  iterate 13 (first | (k_unfold; (try dsimp only)) | (k_end; wrow_close) | walk1 | (dsimp only; walk1) | (leave1; walk_say "STEP leave1"; try dsimp only) | fail "no step")
  rename Fr _ _ _ _ => F9
  rename News _ _ _ _ => N9
  exact hret _ _ _ _ _ _ F9.keep (N9 _ (.head _)).2.2 (N9 _ (.head _)).1
end
/-- the list key of the i-th word -/
noncomputable def isLst (ls : List (PySem.Str × Tok)) (i : Nat) (y : Value) (own : List (Addr × Obj)) : Prop :=
  ∃ x t u n, y = .ref x ∧ (x, lsObj #[.int ((ls.getD i (Str.ofString "", 0)).1.length : Int) t, .str (ls.getD i (Str.ofString "", 0)).1 u] n) ∈ own
theorem sort_L (w : World) {p : Program} {loose : List PySem.Str} (mean mg mb) (dp un : Nat) (fr : Option (List Env)) (gd : Option (List Code)) (s : Shared) (G : Heap) (L' : Addr) (m : PySem.Str → Option Value) (news : List (Addr × Obj)) (qual : PySem.Str) (pm ct : Value) (f' c' : Addr) (l : Addr) (ls : List (PySem.Str × Tok)) (Q : Value → Shared → Prop) (E : Value → Shared → Prop)
    (hA : dp + 25 < recursionLimit) (hu : un + 100 < cLine) (X : (hdT.heap_1 w.params).In G) (T : Top p loose mean mg mb G) (F : Fr G L' s.heap m) (N : News G L' s.heap news)
    (hf : (f', kla_obj (Str.ofString "<lambda>") qual (lLam w.params).1 (lLam w.params).2.1 (lLam w.params).2.2 [] pm c' ct) ∈ news) (hc : ∃ oc vs t, (c', oc) ∈ news ∧ oc.data = .fields vs ∧ vs[1]? = some (.str qual t))
    (hl : s.heap.IsList l (strValues ls).toArray) (h3 : 3 ≤ ls.length) (h6 : ls.length ≤ 6) (hlen : ∀ x ∈ ls, x.1.length < 1000)
    (h : ∀ D h' tk c, Fr G L' h' m → News G L' h' ((D, seqObj "list" (strValues (srt ls)).toArray c) :: news) → (∀ p ∈ news, p.1 < D) → Q (.ref D) { s with heap := h', toks := tk }) :
    wpAny (model Challenge.rw_pe0052_01.row.prog w) { handled := none, depth := dp, frames := fr, guards := gd, units := un } (call (.builtin "sorted") [.ref l] [(Str.ofString "key", .ref f')]) Q E s := by
  have hz : (strValues ls).length = ls.length := by simp [strValues]
  obtain ⟨hok, hsz, _⟩ := sort_facts (n := (strValues ls).length) (by omega) (by omega) (ltS ls)
  rw [← srt_vals h3 h6] at h
  refine key_sorted (T := .type "list") (lt := ltS ls) (R := isLst ls) F N hl (by omega) (by omega) hok hsz ?_ ?_ ?_ ?_ rfl rfl ?_ h
  · rintro i y own extra ⟨x, t, u, n, e, m1⟩
    exact ⟨x, t, u, n, e, List.mem_append_right _ m1⟩
  · rintro i y own extra ⟨x, t, u, n, e, m1⟩
    exact ⟨x, t, u, n, e, List.mem_append_left _ m1⟩
  · intro i v hv h1 tk1 F1 N1
    obtain ⟨oc, vs, t, hm, hd1, hd2⟩ := hc
    obtain ⟨x, tx, hx, rfl⟩ := str_at hv
    have hxl := hlen _ (List.mem_of_getElem? hx)
    have ex : ls.getD i (Str.ofString "", 0) = (x, tx) := by rw [List.getD_eq_getElem?_getD, hx]; rfl
    refine lam_sp w mean mg mb _ _ _ _ { s with heap := h1, toks := tk1 } qual pm ct f' c' x tx _ _ (by show dp + 5 < _; omega) (X.keeps F1.keep) (T.keeps F1.keep) (N1 _ hf).1 ⟨c', oc, vs, t, rfl, (N1 _ hm).1, hd1, hd2⟩ hxl fun h2 tk2 y t u n ks n1 e1 => ?_
    refine ⟨h2, tk2, [(y, _)], rfl, ks, List.forall_mem_singleton.mpr ⟨e1, n1⟩, y, t, u, n, rfl, ?_⟩
    rw [ex]
    exact .head _
  · intro keys own h1 hs hy F1 N1 v hv
    obtain ⟨j, hj⟩ := List.getElem?_of_mem hv
    obtain ⟨x, t, u, n, rfl, m1⟩ := hy j v hj
    exact (Looks.ld (N1 _ (List.mem_append_left _ m1)).1).andThen .now
  · intro keys own hs hy i j h1 tk1 C hi hj F1 N1 hC
    obtain ⟨x, t, u, n, ex, m1⟩ := hy i _ (keys_at hs hi)
    obtain ⟨y, t', u', n', ey, m2⟩ := hy j _ (keys_at hs hj)
    rw [ex, ey]
    refine keylt_list (by show un + 1 + 1 < cLine; omega) (N1 _ (List.mem_append_left _ m1)).1 (N1 _ (List.mem_append_left _ m2)).1 ?_
    rw [ltL_cmp]
    exact hC h1 tk1 fun _ _ e => e
end Mine
end
section
open PySem PySem.W PyProof.Rows PySem.Calls PyProof.Rows.LCg
set_option maxRecDepth 100000
set_option maxHeartbeats 8000000
namespace Mine
noncomputable def intVals (l : List (Int × Tok)) : List Value := l.map fun p => .int p.1 p.2
theorem intVals_at {l : List (Int × Tok)} {i : Nat} {v : Value} (h : (intVals l)[i]? = some v) : ∃ x t, v = .int x t := by
  unfold intVals at h
  rw [List.getElem?_map] at h
  cases e : l[i]? with
  | none => rw [e] at h; cases h
  | some p => rw [e] at h; cases h; exact ⟨p.1, p.2, rfl⟩
theorem word_ok (x : Int) : Ltr (S (wordOf x)).cps.toList ∧ (S (wordOf x)).length ≤ 1000 := by
  have b1 : x % 13 < 13 := Int.emod_lt_of_pos _ (by decide)
  refine ⟨fun c hc => ?_, ?_⟩
  · have hc : c ∈ wordOf x := by simpa [S] using hc
    unfold wordOf at hc
    obtain ⟨k, _, rfl⟩ := List.mem_map.mp hc
    unfold letOf
    have h0 := Int.emod_nonneg (x.fdiv 13 / 3 ^ k) (by decide : (3 : Int) ≠ 0)
    have h1 := Int.emod_lt_of_pos (x.fdiv 13 / 3 ^ k) (by decide : (0 : Int) < 3)
    omega
  · have : (S (wordOf x)).length = (x % 13).toNat := by simp [S, PySem.Str.length, wordOf]
    omega
theorem take_at {l : List Value} {n i : Nat} {v : Value} (h : (l.take n).toArray[i]? = some v) : l[i]? = some v := by
  rw [List.getElem?_toArray, List.getElem?_take] at h
  split at h
  · exact h
  · cases h
theorem words_of : ∀ (ys : List Value), (∀ (i : Nat) y, ys[i]? = some y → ∃ (x : Int) (t : Tok), y = .str (S (wordOf x)) t) → ∃ l : List (PySem.Str × Tok), ys = strValues l ∧ ∀ x ∈ l, Ltr x.1.cps.toList ∧ x.1.length ≤ 1000
  | [], _ => ⟨[], rfl, fun _ h => nomatch h⟩
  | y :: ys, h => by
    obtain ⟨x, t, rfl⟩ := h 0 _ rfl
    obtain ⟨l, e1, e2⟩ := words_of ys fun i z e => h (i + 1) z (by simpa using e)
    exact ⟨(S (wordOf x), t) :: l, by rw [e1]; rfl, List.forall_mem_cons.mpr ⟨word_ok x, e2⟩⟩
theorem words_ok (t1 t2 t3 : Tok) {lw : List (PySem.Str × Tok)} (h : ∀ x ∈ lw, Ltr x.1.cps.toList ∧ x.1.length ≤ 1000) {n : Nat} (hl : lw.length = min 3 n) :
    wOk ([(Str.ofString "cbacbabc", t1), (Str.ofString "bcbabcb", t2), (Str.ofString "cbcacb", t3)] ++ lw) := by
  have e : ∀ x ∈ [Str.ofString "cbacbabc", Str.ofString "bcbabcb", Str.ofString "cbcacb"], (∀ c ∈ x.cps.toList, c = 97 ∨ c = 98 ∨ c = 99) ∧ x.length ≤ 1000 := by decide +kernel
  refine ⟨fun x hx => ?_, by simp, by simp; omega⟩
  rcases List.mem_append.mp hx with hx | hx
  · simp only [List.mem_cons, List.not_mem_nil, or_false] at hx
    rcases hx with rfl | rfl | rfl
    · exact e _ (by simp)
    · exact e _ (by simp)
    · exact e _ (by simp)
  · exact h x hx
section
variable {prog : Program} {w : World} {A : Around} {s : Shared} {K : Frag} {R : Result → Shared → Prop}
/-- entry of a def with cells, as a code -/
theorem enter_defK {name qual : PySem.Str} {params : Arguments} {body : List Stmt} {scope : Scope} {dV kV doc pm cdv ct oc : Value} {an od : Option Addr} {osl : Array (Option Value)} {f : Addr} {pos : List Value} {binds : List (PySem.Str × Value)}
    (X : K.In s.heap) (hlim : s.heap.NoLimit)
    (ho : K.lookup f = some ⟨oc, od, .func (fnOf name qual params body scope dV kV doc pm an cdv ct), osl⟩) (hcd : codeIn K cdv qual = true) (hroom : A.depth < recursionLimit)
    (hbind : BindsTo s (fnOf name qual params body scope dV kV doc pm an cdv ct) ⟨pos, []⟩ binds)
    (hkind : (binds.all fun y => scope.names.lookup y.1 == some .local || scope.names.lookup y.1 == some .cell) = true)
    (hnd : ((cellsFrom 0 scope.names []).map (·.1)).Nodup)
    (h : ∀ L' h₁ tk cells, Fr s.heap L' h₁ (bindL (envOfC qual scope L' f cdv).kindOf binds fun _ => none) → News s.heap L' h₁ cells →
      CellsAre (bindC (envOfC qual scope L' f cdv).kindOf binds fun _ => none) (cellsFrom (L' + 1) scope.names []) cells →
      wpAny (model prog w) (A.deeper (envOfC qual scope L' f cdv)) (execs body (envOfC qual scope L' f cdv))
        (fun fl s' => R (.ok (.ret (match fl with | .ret v => v | _ => .none))) s') (fun _ _ => False)
        { s with heap := h₁, toks := tk })
    (hco : scope.isCoroutine = false) (hgen : scope.isGenerator = false) (hk : scope.kind = .function) :
    codeAny (model prog w) A (.call (.ref f) ⟨pos, []⟩) R s := by
  refine codeAny_call_function hroom (X _ _ ho) rfl hco hgen rfl (codeRec_of X hcd) (hbind _ _ _ _ ?_)
  refine wpAny_newFunctionEnv_cells hk (kindsX hkind _) fun env' he s' x => ?_
  subst he
  refine ⟨hlim.keeps x.toInCall.keep, codeAny_func ?_⟩
  obtain ⟨h₁, tk, rfl, _⟩ := x.done
  have hk₁ := x.toInCall.keep
  obtain ⟨cells, NC, Y⟩ := Cl.news (h₀ := s.heap) (Nat.le_refl _) fun n c hm => ⟨x.cell n c (lookup_of_mem_nodup (cellsFrom_names scope.names 0 (s.heap.objs.size + 1) [] [] rfl ▸ hnd) hm), x.above n c hm⟩
  exact wpAny_mono (h s.heap.objs.size h₁ tk cells ⟨x.toInCall.ns, hk₁, Nat.le_refl _⟩ NC Y) (fun fl s' hq => hq) fun _ _ y => y.elim
end
theorem st1 (w : World) {p : Program} {loose : List PySem.Str} (mean mg mb) (dp un : Nat) (fr : Option (List Env)) (gd : Option (List Code)) (s : Shared) (sc : Addr) (l : List (Int × Tok)) (R : Result → Shared → Prop)
   (hA : dp + 30 < recursionLimit) (hu : un + 200 < cLine) (X : (hdT.heap_1 w.params).In s.heap) (hT : TabsAt lTabs s.heap) (hl : s.heap.IsList sc (intVals l).toArray) (hn : l.length ≤ 63)
   (T : Top p loose mean mg mb s.heap)
   (rest : ∀ (L' : Addr) (h : Heap) (tk : Nat) (D' d : Addr) (o8 oD : Obj) (l2 : List (PySem.Str × Tok)) (kvs : List (PySem.Str × Value)), Fr (ghostOf s.heap lTabs) L' h (fun y => if y = Str.ofString "words" then some (.ref D') else if y = Str.ofString "script" then some (.ref sc) else none) →
      News (ghostOf s.heap lTabs) L' h [(L' + 1, o8), (D', W.listOf (strValues l2).toArray 0), (d, oD), (16, tabObj #[]), (79, tabObj #[])] → o8.data = .cell (some (.ref d)) → wOk l2 → oD.IsDictOf (PySem.strKind Challenge.rw_pe0052_01.row.prog w) kvs → KVs kvs (lsAt 24).1 → (d == sysModules) = false →
      wpAny (model Challenge.rw_pe0052_01.row.prog w) (Around.deeper { handled := none, depth := dp, frames := fr, guards := gd, units := un } (lEnv w.params L')) (execs ((lBody w.params).drop 1) (lEnv w.params L')) (fun fl s' => R (.ok (.ret (match fl with | .ret v => v | _ => .none))) s') (fun _ _ => False) ⟨h, s.gens, s.drawn, tk, s.os⟩) :
   codeAny (model Challenge.rw_pe0052_01.row.prog w) { handled := none, depth := dp, frames := fr, guards := gd, units := un } (.call (.ref 82) ⟨[.ref sc], []⟩) R s := by
  w_on
  revert X rest; k_fill; intro X rest
  k_dflt (refine' enter_defK (binds := [(Str.ofString "script", .ref sc)]) X T.nolimit ?k6 ?k7 ?k8 ?k9 ?kB ?kD ?_ ?c2 ?c3 ?c4; (case k6 => k_is); (case k7 => k_is); (case k8 => exact Nat.lt_of_le_of_lt (Nat.le_add_right dp 30) hA); (case k9 => exact BindsTo.of_eq rfl); (case kB => exact rfl); (case kD => decide +kernel); (case c2 => exact rfl); (case c3 => exact rfl); (case c4 => exact rfl); k_whole)
  intro L' h₁ tk' cells' F' N' Y'
  have X0 := ghost_K hT X (by kernel_rfl!)
  have T0 := ghost_top hT T
  have F0 := ghost_fr hT F'
  have N0 := ghost_news hT F' N'
  have hl0 := ghost_list hT hl
  obtain ⟨o', hE', d1'⟩ := CellsAre.one Y'
  subst hE'
  clear F' N' Y' hl
  have F1 : Fr (ghostOf s.heap lTabs) L' h₁ (fun y => if y = Str.ofString "script" then some (.ref sc) else none) := F0
  clear F0
  simp only [tabNews, List.map_cons, List.map_nil, List.nil_append, List.cons_append] at N0
  have hz : (intVals l).toArray.size ≤ sizeLine := by rw [sizeLine_eq]; simp [intVals]; omega
  generalize ghostOf s.heap lTabs = G at X0 T0 N0 hl0 F1 rest
  clear X T
  iterate 14 (first | (k_unfold; (try dsimp only)) | (k_end; wrow_close) | walk1 | (dsimp only; walk1) | (leave1; walk_say "STEP leave1"; try dsimp only) | fail "no step")
  rename Fr _ _ _ _ => F2
  rename News _ _ _ _ => N2
  dsimp only
  obtain ⟨t1, t2, t3, N3⟩ : ∃ t1 t2 t3, News G L' _ [(_, W.listOf #[.str (Str.ofString "cbacbabc") t1, .str (Str.ofString "bcbabcb") t2, .str (Str.ofString "cbcacb") t3] 0), (L' + 1, o'), (16, tabObj #[]), (79, tabObj #[])] := ⟨_, _, _, N2⟩
  clear N2
  refine LCg.ListComp_U (Fr.keeps (by assumption) (fun _ _ e => e)) (by rfl) (by decide) rfl (by decide) (by decide) ?_
  refine Subscript_ ?_
  iterate 7 (first | (k_unfold; (try dsimp only)) | (k_end; wrow_close) | walk1 | (dsimp only; walk1) | (leave1; walk_say "STEP leave1"; try dsimp only) | fail "no step")
  rename Fr _ _ _ _ => F4
  rename News _ _ _ _ => N4
  dsimp only at N4 ⊢
  rw [show slicePick (intVals l).toArray none (some 3) none = ((intVals l).take 3).toArray from slicePick_upto' _ 3] at N4
  refine LCg.CompSrc.ledger rfl F4 N4 (.head _) (by rw [sizeLine_eq]; simp; omega) fun g => ?_
  refine comp_rest (fun i y _ => ∃ x t, y = .str (S (wordOf x)) t) (fun _ _ _ _ h => h) (fun _ _ h => srcAt_app h) _ _ (.inr ⟨_, .head _, rfl, _, rfl⟩) ?_ ?_
  · intro i v C oC m₂ h tk news more E' hi hP hoC hm₂ hC F₂ N₂ hCL hoff hin _
    obtain ⟨x, t, rfl⟩ := intVals_at (take_at hP)
    have N₃ : News G L' h [(C, oC)] := fun p hp => N₂ p (List.mem_append_right _ (by rw [List.mem_singleton.mp hp]; exact .head _))
    clear N₂ N4 F4 N3 F2 hoff
    iterate 8 (first | (k_unfold; (try dsimp only)) | (k_end; wrow_close) | walk1 | (dsimp only; walk1) | (leave1; walk_say "STEP leave1"; try dsimp only) | fail "no step")
    refine wor_sp w mean mg mb (dp + 1) _ _ _ _ x t _ _ (Nat.lt_of_le_of_lt (by omega) hA) (by exact X0.keeps F₂.keep) (by exact T0.keeps F₂.keep) fun h' tk' t' hs hz => ?_
    exact ⟨_, _, [], rfl, hs, List.forall_mem_nil _, x, t', rfl⟩
  · intro ys news hlen hy hin _ D h tk F₂ N₂ off
    obtain ⟨lw, rfl, hlw⟩ := words_of ys hy
    have N₃ := news_pick N₂ (all := [(D, lst (strValues lw)), _, (L' + 1, o'), (16, tabObj #[]), (79, tabObj #[])]) (List.forall_mem_cons.mpr ⟨.head _, fun p hp => .tail _ (hin p (.tail _ hp))⟩)
    clear N₂ N4 F4 N3 F2 off hin
    dsimp only
    have hzw : (#[Value.str (Str.ofString "cbacbabc") t1, Value.str (Str.ofString "bcbabcb") t2, Value.str (Str.ofString "cbcacb") t3]).toList.length + (strValues lw).toArray.toList.length ≤ sizeLine := by
      rw [sizeLine_eq]; simp [strValues] at hlen ⊢; omega
    k_dflt (refine' kmk_add_lit (zs := strValues ([(Str.ofString "cbacbabc", t1), (Str.ofString "bcbabcb", t2), (Str.ofString "cbcacb", t3)] ++ lw)) F₂ N₃ ?a ?b ?e ?_ ?z; (case a => exact N₃.isList (.tail _ (.head _))); (case b => exact N₃.isList (.head _)); (case e => rfl); (case z => exact hzw); k_whole)
    intro D' h' F' N' l1
    have hw2 : wOk ([(Str.ofString "cbacbabc", t1), (Str.ofString "bcbabcb", t2), (Str.ofString "cbcacb", t3)] ++ lw) := words_ok t1 t2 t3 hlw (by simpa [strValues] using hlen)
    generalize ([(Str.ofString "cbacbabc", t1), (Str.ofString "bcbabcb", t2), (Str.ofString "cbcacb", t3)] ++ lw) = l2 at N' hw2 ⊢
    have N5 := news_pick N' (all := [(D', W.listOf (strValues l2).toArray 0), (L' + 1, o'), (16, tabObj #[]), (79, tabObj #[])]) (List.forall_mem_cons.mpr ⟨.head _, fun p hp => .tail _ (.tail _ (.tail _ hp))⟩)
    clear N' N₃ F₂
    iterate 4 (first | (k_unfold; (try dsimp only)) | (k_end; wrow_close) | walk1 | (dsimp only; walk1) | (leave1; walk_say "STEP leave1"; try dsimp only) | fail "no step")
    dsimp only
    refine lea_sp w mean mg mb (dp + 1) _ _ _ _ _ _ (Nat.lt_of_le_of_lt (by omega) hA) (by exact X0.keeps F'.keep) (by exact T0.keeps F'.keep) fun h6 tk6 d oD kvs hs hz6 hd hdn hD hk lo => ?_
    have e5 : Heap.get? h' (L' + 1) = some o' := (N5 _ (.tail _ (.head _))).1
    have F6 := F'.keeps hs
    have N6 := news_fresh F' N5 hs hd hdn
    clear F' N5
    have d1 : o'.data = .cell none := d1'
    have e1 : L' + 1 < D' := l1 (L' + 1, o') (.tail _ (.tail _ (.head _)))
    have e3 : 82 < L' := Nat.lt_of_lt_of_le (Heap.lt_size (X0 82 _ (by k_is))) F6.above
    have e2 : d ≠ L' + 1 := fun q => by
      rw [q] at hdn
      rw [show Heap.get? h' (L' + 1) = none from hdn] at e5
      cases e5
    iterate 5 (first | (k_unfold; (try dsimp only)) | (k_end; wrow_close) | walk1 | (dsimp only; walk1) | (leave1; walk_say "STEP leave1"; try dsimp only) | fail "no step")
    dsimp only
    iterate 3 (first | (k_unfold; (try dsimp only)) | (k_end; wrow_close) | walk1 | (dsimp only; walk1) | (leave1; walk_say "STEP leave1"; try dsimp only) | fail "no step")
    rename Fr _ _ _ _ => F7
    rename News _ _ _ _ => N7
    rename (_ < _ ∧ _) => l7
    k_dflt (refine' storeX_C F7 N7 (by rfl) (.tail (Nat.ne_of_gt l7.2.2.1) (.tail e2 (.tail (Nat.ne_of_gt e1) (.head ?_)))) d1 ?_ ?_ ?_)
    · intro p hp
      rcases List.mem_cons.mp hp with rfl | hp
      · exact Nat.ne_of_lt (Nat.lt_succ_of_lt (Nat.lt_trans (by decide : 16 < 82) e3))
      · rw [List.mem_singleton.mp hp]; exact Nat.ne_of_lt (Nat.lt_succ_of_lt (Nat.lt_trans (by decide : 79 < 82) e3))
    rotate_left 1
    · rfl
    · rfl
    intro h8 o8 F8 N8 d8
    clear N7 F7
    have N9 := news_pick N8 (all := [(L' + 1, o8), (D', W.listOf (strValues l2).toArray 0), (d, oD), (16, tabObj #[]), (79, tabObj #[])]) (by intro p hp; simp only [List.mem_cons, List.not_mem_nil, or_false] at hp ⊢; rcases hp with rfl | rfl | rfl | rfl | rfl <;> simp)
    clear N8
    iterate 2 (first | (k_unfold; (try dsimp only)) | (k_end; wrow_close) | walk1 | (dsimp only; walk1) | (leave1; walk_say "STEP leave1"; try dsimp only) | fail "no step")
    exact rest L' h8 _ D' d o8 oD l2 kvs F8 N9 d8 hw2 hD hk lo
end Mine
end
section
open PySem PySem.W PyProof.Rows PySem.Calls PyProof.Rows.LCg
set_option maxRecDepth 100000
set_option maxHeartbeats 1000000
namespace Mine
theorem row_at {a b c d : Int} {ta tb tc td : Tok} {i : Nat} {v : Value} (h : (#[Value.int a ta, .int b tb, .int c tc, .int d td] : Array Value)[i]? = some v) : ∃ z u, v = .int z u ∧ (z = a ∨ z = b ∨ z = c ∨ z = d) := by
  rcases i with _ | _ | _ | _ | i
  · cases h; exact ⟨_, _, rfl, .inl rfl⟩
  · cases h; exact ⟨_, _, rfl, .inr (.inl rfl)⟩
  · cases h; exact ⟨_, _, rfl, .inr (.inr (.inl rfl))⟩
  · cases h; exact ⟨_, _, rfl, .inr (.inr (.inr rfl))⟩
  · simp at h
noncomputable abbrev txts (q : R4) : List PySem.Str := [Str.ofString (toString q.1), Str.ofString (toString q.2.1), Str.ofString (toString q.2.2.1), Str.ofString (toString q.2.2.2)]
theorem row_txts {a b c d : Int} {ta tb tc td : Tok} : ∀ (ys : List Value), ys.length = 4 →
    (∀ (i : Nat) y, ys[i]? = some y → ∃ z u t, (#[Value.int a ta, .int b tb, .int c tc, .int d td] : Array Value)[i]? = some (.int z u) ∧ y = .str (Str.ofString (toString z)) t) →
    ∃ l : List (PySem.Str × Tok), ys = strValues l ∧ l.map (·.1) = txts (a, b, c, d)
  | [x0, x1, x2, x3], _, h => by
    obtain ⟨z0, u0, t0, e0, rfl⟩ := h 0 _ rfl
    obtain ⟨z1, u1, t1, e1, rfl⟩ := h 1 _ rfl
    obtain ⟨z2, u2, t2, e2, rfl⟩ := h 2 _ rfl
    obtain ⟨z3, u3, t3, e3, rfl⟩ := h 3 _ rfl
    cases e0; cases e1; cases e2; cases e3
    exact ⟨[(_, t0), (_, t1), (_, t2), (_, t3)], rfl, rfl⟩
theorem nf_small : ∀ v ∈ nf24, ∀ z ∈ [(v.foldl st (0, 1, 2, 3)).1, (v.foldl st (0, 1, 2, 3)).2.1, (v.foldl st (0, 1, 2, 3)).2.2.1, (v.foldl st (0, 1, 2, 3)).2.2.2], z.natAbs.log2 < 1920 := by decide +kernel
theorem nf_join : ∀ v ∈ nf24, JoinOk (Str.ofString "") (txts (v.foldl st (0, 1, 2, 3))) = true ∧ Txt.join (Str.ofString "") (txts (v.foldl st (0, 1, 2, 3))) = keyOf (v.foldl st (0, 1, 2, 3)) := by decide +kernel
theorem Nf.get {l : List (PySem.Str × Tok)} {vs : List (List Nat)} (N : Nf l vs) {i : Nat} {x : PySem.Str × Tok} (h : l[i]? = some x) : ∃ v, vs[i]? = some v ∧ v ∈ nf24 ∧ ∀ q : R4, v.foldl st q = x.1.cps.toList.foldl st q := by
  have hi : i < vs.length := by rw [N.len]; exact (List.getElem?_eq_some_iff.mp h).1
  exact ⟨vs[i], List.getElem?_eq_getElem hi, N.at' i x _ h (List.getElem?_eq_getElem hi)⟩
theorem st2 (w : World) {p : Program} {loose : List PySem.Str} (mean mg mb) (dp un : Nat) (fr : Option (List Env)) (gd : Option (List Code)) (s : Shared) (G : Heap) (L' D' d : Addr) (o8 oD : Obj) (l2 : List (PySem.Str × Tok)) (kvs : List (PySem.Str × Value)) (f : PySem.Str → Option Value) (Qf : Flow → Shared → Prop)
   (hA : dp + 30 < recursionLimit) (X : (hdT.heap_1 w.params).In G) (T : Top p loose mean mg mb G)
   (F : Fr G L' s.heap (fun y => if y = Str.ofString "words" then some (.ref D') else f y))
   (N : News G L' s.heap [(L' + 1, o8), (D', W.listOf (strValues l2).toArray 0), (d, oD), (16, tabObj #[]), (79, tabObj #[])])
   (d8 : o8.data = .cell (some (.ref d))) (hw2 : wOk l2) (hD : oD.IsDictOf (PySem.strKind Challenge.rw_pe0052_01.row.prog w) kvs) (hk : KVs kvs (lsAt 24).1) (lo : (d == sysModules) = false)
   (rest : ∀ (h : Heap) (tk : Nat) (Sh Du : Addr) (ls ld : List (PySem.Str × Tok)) (vs : List (List Nat)), Fr G L' h (fun y => if y = Str.ofString "short" then some (.ref Sh) else if y = Str.ofString "due" then some (.ref Du) else if y = Str.ofString "words" then some (.ref D') else f y) →
      News G L' h [(D', W.listOf (strValues l2).toArray 0), (Sh, lst (strValues ls)), (Du, lst (strValues ld)), (16, tabObj #[]), (79, tabObj #[])] →
      ls.map (·.1) = vs.map (fun v => S (up1 v)) → ld.map (·.1) = vs.map S → Nf l2 vs →
      wpAny (model Challenge.rw_pe0052_01.row.prog w) (Around.deeper { handled := none, depth := dp, frames := fr, guards := gd, units := un } (lEnv w.params L')) (execs ((lBody w.params).drop 2) (lEnv w.params L')) Qf (fun _ _ => False) ⟨h, s.gens, s.drawn, tk, s.os⟩) :
   wpAny (model Challenge.rw_pe0052_01.row.prog w) (Around.deeper { handled := none, depth := dp, frames := fr, guards := gd, units := un } (lEnv w.params L')) (execs ((lBody w.params).drop 1) (lEnv w.params L')) Qf (fun _ _ => False) s := by
  w_on
  revert X rest; k_fill; intro X rest
  obtain ⟨h0, g0, dr0, tk0, os0⟩ := s
  dsimp only at F N rest ⊢
  unfold lEnv at rest ⊢
  conv in (lBody w.params).drop 1 => whnf
  conv in (occs := *) lSc w.params => all_goals whnf
  iterate 4 (first | (k_unfold; (try dsimp only)) | (k_end; wrow_close) | walk1 | (dsimp only; walk1) | (leave1; walk_say "STEP leave1"; try dsimp only) | fail "no step")
  refine LCg.ListComp_U F (by rfl) (by decide) rfl (by decide) (by decide) ?_
  iterate 1 (first | (k_unfold; (try dsimp only)) | (k_end; wrow_close) | walk1 | (dsimp only; walk1) | (leave1; walk_say "STEP leave1"; try dsimp only) | fail "no step")
  refine LCg.CompSrc.ledger rfl F N (.tail _ (.head _)) (by rw [sizeLine_eq]; simp [strValues]; have := hw2.2.2; omega) fun g => ?_
  refine comp_rest (fun i y _ => ∃ x v t, l2[i]? = some x ∧ y = .str (S (up1 v)) t ∧ v ∈ nf24 ∧ ∀ q : R4, v.foldl st q = x.1.cps.toList.foldl st q) (fun _ _ _ _ h => h) (fun _ _ h => srcAt_app h) _ _ (.inr ⟨_, .tail _ (.head _), rfl, _, rfl⟩) ?_ ?_
  · intro i v C oC m₂ h tk news more E' hi hP hoC hm₂ hC F₂ N₂ hCL hoff hin _
    obtain ⟨x, t, hx, rfl⟩ := str_at (i := i) (by simpa using hP)
    have N₃ : News G L' h [(C, oC)] := fun p hp => N₂ p (List.mem_append_right _ (by rw [List.mem_singleton.mp hp]; exact .head _))
    have hxx := hw2.1 _ (List.mem_of_getElem? hx)
    clear N₂ N F hoff
    iterate 8 (first | (k_unfold; (try dsimp only)) | (k_end; wrow_close) | walk1 | (dsimp only; walk1) | (leave1; walk_say "STEP leave1"; try dsimp only) | fail "no step")
    refine sho_sp w mean mg mb (dp + 1) _ _ _ _ x t _ _ (Nat.lt_of_le_of_lt (by omega) hA) (by exact X.keeps F₂.keep) hxx.1 hxx.2 (by exact T.keeps F₂.keep) fun h' tk' t' v hs hz hv hact => ?_
    exact ⟨_, _, [], rfl, hs, List.forall_mem_nil _, (x, t), v, t', hx, rfl, hv, hact⟩
  · intro ys news hlen hy hin _ D h tk F₂ N₂ off
    obtain ⟨ls, vs, rfl, hls, hnf⟩ := shorts_of ys l2 (by simpa [strValues] using hlen) hy
    have N₃ := news_pick N₂ (all := [(D, lst (strValues ls)), (L' + 1, o8), (D', W.listOf (strValues l2).toArray 0), (d, oD), (16, tabObj #[]), (79, tabObj #[])]) (List.forall_mem_cons.mpr ⟨.head _, fun p hp => .tail _ (hin p hp)⟩)
    clear N₂ N F off hin hy hlen
    dsimp only
    iterate 1 (first | (k_unfold; (try dsimp only)) | (k_end; wrow_close) | walk1 | (dsimp only; walk1) | (leave1; walk_say "STEP leave1"; try dsimp only) | fail "no step")
    refine LCg.ListComp_U F₂ (by rfl) (by decide) rfl (by decide) (by decide) ?_
    iterate 1 (first | (k_unfold; (try dsimp only)) | (k_end; wrow_close) | walk1 | (dsimp only; walk1) | (leave1; walk_say "STEP leave1"; try dsimp only) | fail "no step")
    refine LCg.CompSrc.ledger rfl F₂ N₃ (.tail _ (.tail _ (.head _))) (by rw [sizeLine_eq]; simp [strValues]; have := hw2.2.2; omega) fun g => ?_
    refine comp_restN (fun i y _ => ∃ v t, vs[i]? = some v ∧ y = .str (S v) t) (fun _ _ _ _ h => h) (fun _ _ h => srcAt_app h) _ _ (.inr ⟨_, .tail _ (.tail _ (.head _)), rfl, _, rfl⟩) ?_ ?_
    · intro i v C oC m₂ h tk news more E' hi hP hoC hm₂ F₄ N₄ hoff hin _
      obtain ⟨x, t, hx, rfl⟩ := str_at (i := i) (by simpa using hP)
      have N₅ : News G L' h [(C, oC), (L' + 1, o8), (d, oD)] := news_pick N₄ (List.forall_mem_cons.mpr ⟨.head _, List.forall_mem_cons.mpr ⟨.tail _ (List.mem_append_right _ (hin _ (.tail _ (.head _)))), List.forall_mem_singleton.mpr (.tail _ (List.mem_append_right _ (hin _ (.tail _ (.tail _ (.tail _ (.head _)))))))⟩⟩)
      have hC := (N₅ _ (.head _)).1
      have hxx := hw2.1 _ (List.mem_of_getElem? hx)
      have K4 : Nonempty (News G L' h _) := ⟨N₄⟩
      clear N₃ F₂ N₄
      iterate 6 (first | (k_unfold; (try dsimp only)) | (k_end; wrow_close) | walk1 | (dsimp only; walk1) | (leave1; walk_say "STEP leave1"; try dsimp only) | fail "no step")
      dsimp only
      iterate 2 (first | (k_unfold; (try dsimp only)) | (k_end; wrow_close) | walk1 | (dsimp only; walk1) | (leave1; walk_say "STEP leave1"; try dsimp only) | fail "no step")
      refine LCg.ListComp_U F₄ (by rfl) (by decide) rfl (by decide) (by decide) ?_
      iterate 7 (first | (k_unfold; (try dsimp only)) | (k_end; wrow_close) | walk1 | (dsimp only; walk1) | (leave1; walk_say "STEP leave1"; try dsimp only) | fail "no step")
      refine row_sp w mean mg mb (dp + 1) _ _ _ _ x t _ _ (Nat.lt_of_le_of_lt (by omega) hA) (by exact X.keeps F₄.keep) hxx.1 (by exact T.keeps F₄.keep) fun h6 tk6 r hs hz hr hf => ?_
      obtain ⟨N₄⟩ := K4
      obtain ⟨vv, hvv, hvn, hva⟩ := hnf.get hx
      have hsm := nf_small vv hvn
      have hjo := nf_join vv hvn
      have hle := least_nf vv hvn
      rw [hva] at hsm hjo hle
      dsimp only at hsm hjo hle
      generalize hq : List.foldl st (0, 1, 2, 3) x.cps.toList = q at hr hsm hjo hle
      obtain ⟨qa, qb, qc, qd⟩ := q
      have KK : Nonempty (_ ∧ _ ∧ _) := ⟨hsm, hjo, hle⟩
      clear hsm hjo hle hva
      obtain ⟨_, er, ta, tb, tc, td, nr, rfl⟩ := hr
      dsimp only at er
      have F6 := F₄.keeps hs
      have N6 := news_fresh F₄ N₄ hs er hf
      dsimp only
      refine LCg.CompSrc.ledger rfl F6 N6 (.head _) (Nat.le_of_ble_eq_true rfl) fun g2 => ?_
      clear N₅
      refine comp_restN (fun i y _ => ∃ z u t, (#[Value.int qa ta, .int qb tb, .int qc tc, .int qd td] : Array Value)[i]? = some (.int z u) ∧ y = .str (Str.ofString (toString z)) t) (fun _ _ _ _ h => h) (fun _ _ h => srcAt_app h) _ _ (.inr ⟨_, .head _, rfl, _, rfl⟩) ?_ ?_
      · intro j v C2 oC2 m3 h7 tk7 news2 more2 E2 hj hP2 hoC2 hm3 F7 N7 hoff2 hin2 _
        obtain ⟨z, u, rfl, hz4⟩ := row_at hP2
        have N8 : News G L' h7 [(C2, oC2)] := news_pick N7 (List.forall_mem_singleton.mpr (.head _))
        have K7 : Nonempty (News G L' h7 _) := ⟨N7⟩
        have hC2 := (N8 _ (.head _)).1
        clear N₄ F₄ N6 F6 N7
        iterate 6 (first | (k_unfold; (try dsimp only)) | (k_end; wrow_close) | walk1 | (dsimp only; walk1) | (leave1; walk_say "STEP leave1"; try dsimp only) | fail "no step")
        obtain ⟨hsm, _, _⟩ := KK
        refine P.str_of_int (hsm z (by simpa using hz4)) ?_
        obtain ⟨N7⟩ := K7
        exact ⟨_, _, [], rfl, F7, N7, List.forall_mem_nil _, z, u, _, hP2, rfl⟩
      · intro ys news2 hlen hy hin2 _ D3 h8 tk8 F8 N8 off
        obtain ⟨l4, rfl, hl4⟩ := row_txts ys hlen hy
        have K8 : Nonempty (News G L' h8 ((C, oC) :: (more ++ news))) := ⟨news_pick N8 fun p hp => .tail _ (hin2 p (.tail _ hp))⟩
        have N9 : News G L' h8 [(D3, lst (strValues l4)), (C, oC), (L' + 1, o8), (d, oD)] := news_pick N8 (List.forall_mem_cons.mpr ⟨.head _, List.forall_mem_cons.mpr ⟨.tail _ (hin2 _ (.tail _ (.head _))), List.forall_mem_cons.mpr ⟨.tail _ (hin2 _ (.tail _ (.tail _ (List.mem_append_right _ (hin _ (.tail _ (.head _))))))), List.forall_mem_singleton.mpr (.tail _ (hin2 _ (.tail _ (.tail _ (List.mem_append_right _ (hin _ (.tail _ (.tail _ (.tail _ (.head _))))))))))⟩⟩⟩)
        clear N₄ F₄ N6 F6 N8
        dsimp only
        iterate 1 (first | (k_unfold; (try dsimp only)) | (k_end; wrow_close) | walk1 | (dsimp only; walk1) | (leave1; walk_say "STEP leave1"; try dsimp only) | fail "no step")
        obtain ⟨hsm, hjo, hle⟩ := KK
        refine join_eq (keyOf (qa, qb, qc, qd)) (News.isList N9 (.head _)) hl4 hjo.1 hjo.2 fun t9 k9 => ?_
        obtain ⟨tv, h4⟩ : ∃ tv, valueAt kvs (keyOf (qa, qb, qc, qd)) = some (.str (S vv) tv) := by
          rcases hk.at (keyOf (qa, qb, qc, qd)) with ⟨h3, _⟩ | ⟨v', t', h3, h4⟩
          · rw [hle] at h3; cases h3
          · rw [hle] at h3; cases h3; exact ⟨t', h4⟩
        clear hsm hjo hle
        refine kda_item (knd := PySem.strKind _ _) N9 (.tail _ (.tail _ (.tail _ (.head _)))) hD (strKind_is _ _ _ _) h4 ?_
        obtain ⟨N9⟩ := K8
        exact ⟨_, _, [], rfl, F8, N9, List.forall_mem_nil _, vv, tv, hvv, rfl⟩
    · intro ys news hlen hy hin _ D2 h tk F₄ N₄ off
      obtain ⟨ld, rfl, hld⟩ := dues_of ys vs (by rw [hnf.len]; simpa [strValues] using hlen) hy
      have N₅ := news_pick N₄ (all := [(D2, lst (strValues ld)), (D', W.listOf (strValues l2).toArray 0), (D, lst (strValues ls)), (16, tabObj #[]), (79, tabObj #[])]) (List.forall_mem_cons.mpr ⟨.head _, fun p hp => .tail _ (hin p (by simp only [List.mem_cons, List.not_mem_nil, or_false] at hp ⊢; rcases hp with rfl | rfl | rfl | rfl <;> simp))⟩)
      clear N₃ N₄ F₂ off hin hy hlen
      dsimp only
      iterate 11 (first | (k_unfold; (try dsimp only)) | (k_end; wrow_close) | walk1 | (dsimp only; walk1) | (leave1; walk_say "STEP leave1"; try dsimp only) | fail "no step")
      rename Fr _ _ _ _ => F9
      rename News _ _ _ _ => N9
      refine rest _ _ D D2 ls ld vs F9 (news_pick N9 ?_) hls hld hnf
      intro p hp
      simp only [List.mem_cons, List.not_mem_nil, or_false] at hp ⊢
      rcases hp with rfl | rfl | rfl | rfl | rfl <;> simp
end Mine
end
section
open PySem PySem.W PyProof.Rows PySem.Calls PyProof.Rows.LCg
set_option maxRecDepth 100000
set_option maxHeartbeats 1000000
namespace Mine
theorem up_ok : ∀ v ∈ nf24, PyData.strOk (S (up1 v)) = true := by decide +kernel
theorem nf_len : ∀ v ∈ nf24, v.length ≤ 6 := by decide +kernel
theorem Nf.mem {l : List (PySem.Str × Tok)} {vs : List (List Nat)} (N : Nf l vs) {v : List Nat} (h : v ∈ vs) : v ∈ nf24 := by
  obtain ⟨i, hi, rfl⟩ := List.mem_iff_getElem.mp h
  have hl : i < l.length := by rw [← N.len]; exact hi
  exact (N.at' i l[i] vs[i] (List.getElem?_eq_getElem hl) (List.getElem?_eq_getElem hi)).1
theorem dues_at {ld : List (PySem.Str × Tok)} {vs : List (List Nat)} (e : ld.map (·.1) = vs.map S) {i : Nat} {x : PySem.Str} {t : Tok} (h : ld[i]? = some (x, t)) : ∃ v, vs[i]? = some v ∧ x = S v := by
  have e2 : (ld.map (·.1))[i]? = some x := by rw [List.getElem?_map, h]; rfl
  rw [e, List.getElem?_map] at e2
  cases q : vs[i]? with
  | none => rw [q] at e2; cases e2
  | some v => rw [q] at e2; cases e2; exact ⟨v, rfl, rfl⟩
theorem nf_ltr : ∀ v ∈ nf24, ∀ c ∈ v, c = 97 ∨ c = 98 ∨ c = 99 := by decide +kernel
theorem ups_of : ∀ (ys : List Value) (v : List Nat), ys.length = v.length → (∀ (i : Nat) y, ys[i]? = some y → ∃ c u, v[i]? = some c ∧ y = .str ⟨#[c + 1]⟩ u) →
    ∃ l : List (PySem.Str × Tok), ys = strValues l ∧ l.map (·.1) = (up1 v).map fun c => (⟨#[c]⟩ : PySem.Str)
  | [], [], _, _ => ⟨[], rfl, rfl⟩
  | [], _ :: _, h, _ => by cases h
  | _ :: _, [], h, _ => by cases h
  | y :: ys, c :: v, hl, h => by
    obtain ⟨c', u, hc, rfl⟩ := h 0 _ rfl
    cases hc
    obtain ⟨l, e1, e2⟩ := ups_of ys v (by simpa using hl) fun i z e => by simpa using h (i + 1) z (by simpa using e)
    refine ⟨(⟨#[c + 1]⟩, u) :: l, by rw [e1]; rfl, ?_⟩
    rw [List.map_cons, e2]; rfl
theorem shorts2_of : ∀ (ys : List Value) (vs : List (List Nat)), ys.length = vs.length →
    (∀ (i : Nat) y, ys[i]? = some y → ∃ v t, vs[i]? = some v ∧ y = .str (S (up1 v)) t) → ∃ ld : List (PySem.Str × Tok), ys = strValues ld ∧ ld.map (·.1) = vs.map (fun v => S (up1 v))
  | [], [], _, _ => ⟨[], rfl, rfl⟩
  | [], _ :: _, h, _ => by cases h
  | _ :: _, [], h, _ => by cases h
  | y :: ys, x :: l, hl, h => by
    obtain ⟨v, t, hx, rfl⟩ := h 0 _ rfl
    cases hx
    obtain ⟨ls, e1, e2⟩ := shorts2_of ys l (by simpa using hl) fun i z e => by simpa using h (i + 1) z (by simpa using e)
    exact ⟨(S (up1 x), t) :: ls, by rw [e1]; rfl, by rw [List.map_cons, e2]; rfl⟩
theorem st3 (w : World) {p : Program} {loose : List PySem.Str} (mean mg mb) (dp un : Nat) (fr : Option (List Env)) (gd : Option (List Code)) (s : Shared) (G : Heap) (L' D' Sh Du : Addr) (l2 ls ld : List (PySem.Str × Tok)) (vs : List (List Nat)) (f : PySem.Str → Option Value) (Qf : Flow → Shared → Prop)
   (hA : dp + 30 < recursionLimit) (hu : un + 200 < cLine) (X : (hdT.heap_1 w.params).In G) (T : Top p loose mean mg mb G)
   (F : Fr G L' s.heap (fun y => if y = Str.ofString "short" then some (.ref Sh) else if y = Str.ofString "due" then some (.ref Du) else if y = Str.ofString "words" then some (.ref D') else f y))
   (N : News G L' s.heap [(D', W.listOf (strValues l2).toArray 0), (Sh, lst (strValues ls)), (Du, lst (strValues ld)), (16, tabObj #[]), (79, tabObj #[])])
   (hw2 : wOk l2) (hls : ls.map (·.1) = vs.map (fun v => S (up1 v))) (hld : ld.map (·.1) = vs.map S) (hnf : Nf l2 vs)
   (rest : ∀ (h : Heap) (tk : Nat), Fr G L' h (fun y => if y = Str.ofString "short" then some (.ref Sh) else if y = Str.ofString "due" then some (.ref Du) else if y = Str.ofString "words" then some (.ref D') else f y) →
      News G L' h [(D', W.listOf (strValues l2).toArray 0), (Sh, lst (strValues ls)), (Du, lst (strValues ld)), (16, tabObj #[]), (79, tabObj #[])] →
      wpAny (model Challenge.rw_pe0052_01.row.prog w) (Around.deeper { handled := none, depth := dp, frames := fr, guards := gd, units := un } (lEnv w.params L')) (execs ((lBody w.params).drop 3) (lEnv w.params L')) Qf (fun _ _ => False) ⟨h, s.gens, s.drawn, tk, s.os⟩) :
   wpAny (model Challenge.rw_pe0052_01.row.prog w) (Around.deeper { handled := none, depth := dp, frames := fr, guards := gd, units := un } (lEnv w.params L')) (execs ((lBody w.params).drop 2) (lEnv w.params L')) Qf (fun _ _ => False) s := by
  w_on
  revert X rest; k_fill; intro X rest
  obtain ⟨h0, g0, dr0, tk0, os0⟩ := s
  dsimp only at F N rest ⊢
  unfold lEnv at rest ⊢
  conv in (lBody w.params).drop 2 => whnf
  conv in (occs := *) lSc w.params => all_goals whnf
  have hln : ld.length ≤ 6 := by
    have e := congrArg List.length hld
    rw [List.length_map, List.length_map, hnf.len] at e
    rw [e]; exact hw2.2.2
  iterate 4 (first | (k_unfold; (try dsimp only)) | (k_end; wrow_close) | walk1 | (dsimp only; walk1) | (leave1; walk_say "STEP leave1"; try dsimp only) | fail "no step")
  refine LCg.ListComp_U F (by rfl) (by decide) rfl (by decide) (by decide) ?_
  iterate 1 (first | (k_unfold; (try dsimp only)) | (k_end; wrow_close) | walk1 | (dsimp only; walk1) | (leave1; walk_say "STEP leave1"; try dsimp only) | fail "no step")
  refine LCg.CompSrc.ledger rfl F N (.tail _ (.tail _ (.head _))) (by rw [sizeLine_eq]; simp [strValues]; omega) fun g => ?_
  refine comp_restN (fun i y _ => ∃ v t, vs[i]? = some v ∧ y = .str (S (up1 v)) t) (fun _ _ _ _ h => h) (fun _ _ h => srcAt_app h) _ _ (.inr ⟨_, .tail _ (.tail _ (.head _)), rfl, _, rfl⟩) ?_ ?_
  · intro i v C oC m₂ h tk news more E' hi hP hoC hm₂ F₄ N₄ hoff hin _
    obtain ⟨x, t, hx, rfl⟩ := str_at (i := i) (by simpa using hP)
    have N₅ : News G L' h [(C, oC)] := news_pick N₄ (List.forall_mem_singleton.mpr (.head _))
    have K4 : Nonempty (News G L' h _) := ⟨N₄⟩
    have hC := (N₅ _ (.head _)).1
    clear N N₄
    iterate 5 (first | (k_unfold; (try dsimp only)) | (k_end; wrow_close) | walk1 | (dsimp only; walk1) | (leave1; walk_say "STEP leave1"; try dsimp only) | fail "no step")
    dsimp only
    iterate 1 (first | (k_unfold; (try dsimp only)) | (k_end; wrow_close) | walk1 | (dsimp only; walk1) | (leave1; walk_say "STEP leave1"; try dsimp only) | fail "no step")
    obtain ⟨vv, hvv, rfl⟩ : ∃ vv, vs[i]? = some vv ∧ x = S vv := dues_at hld hx
    have hvn : vv ∈ nf24 := hnf.mem (List.mem_of_getElem? hvv)
    refine ListComp_S F₄ (by rfl) (by decide) rfl (by decide) (by decide) ?_
    iterate 1 (first | (k_unfold; (try dsimp only)) | (k_end; wrow_close) | walk1 | (dsimp only; walk1) | (leave1; walk_say "STEP leave1"; try dsimp only) | fail "no step")
    obtain ⟨N₄⟩ := K4
    refine ⟨_, _, _, rfl, rfl, F₄, N₄, by rw [sizeLine_eq]; have := nf_len vv hvn; simp [S]; omega, ?_⟩
    rintro _ ⟨g2, rfl⟩
    clear N₅
    refine comp_restN (fun j y _ => ∃ c u, vv[j]? = some c ∧ y = .str ⟨#[c + 1]⟩ u) (fun _ _ _ _ h => h) (fun _ _ h => h) _ _ trivial ?_ ?_
    · intro j v C2 oC2 m3 h7 tk7 news2 more2 E2 hj hP2 hoC2 hm3 F7 N7 hoff2 hin2 _
      obtain ⟨c, u, hc, rfl⟩ := hP2
      have hc2 : vv[j]? = some c := by simpa [S] using hc
      have hl3 : c = 97 ∨ c = 98 ∨ c = 99 := nf_ltr vv hvn c (List.mem_of_getElem? hc2)
      have N8 : News G L' h7 [(C2, oC2)] := news_pick N7 (List.forall_mem_singleton.mpr (.head _))
      have K7 : Nonempty (News G L' h7 _) := ⟨N7⟩
      have hC2 := (N8 _ (.head _)).1
      clear N₄ F₄ N7
      rcases hl3 with rfl | rfl | rfl
      · iterate 15 (first | (k_unfold; (try dsimp only)) | (k_end; wrow_close) | walk1 | (dsimp only; walk1) | (leave1; walk_say "STEP leave1"; try dsimp only) | fail "no step")
        dsimp only
        refine add_lit 98 (by decide) ?_
        iterate 2 (first | (k_unfold; (try dsimp only)) | (k_end; wrow_close) | walk1 | (dsimp only; walk1) | (leave1; walk_say "STEP leave1"; try dsimp only) | fail "no step")
        obtain ⟨N7⟩ := K7
        exact ⟨_, _, [], rfl, F7, N7, List.forall_mem_nil _, 97, _, hc2, rfl⟩
      · iterate 15 (first | (k_unfold; (try dsimp only)) | (k_end; wrow_close) | walk1 | (dsimp only; walk1) | (leave1; walk_say "STEP leave1"; try dsimp only) | fail "no step")
        dsimp only
        refine add_lit 99 (by decide) ?_
        iterate 2 (first | (k_unfold; (try dsimp only)) | (k_end; wrow_close) | walk1 | (dsimp only; walk1) | (leave1; walk_say "STEP leave1"; try dsimp only) | fail "no step")
        obtain ⟨N7⟩ := K7
        exact ⟨_, _, [], rfl, F7, N7, List.forall_mem_nil _, 98, _, hc2, rfl⟩
      · iterate 15 (first | (k_unfold; (try dsimp only)) | (k_end; wrow_close) | walk1 | (dsimp only; walk1) | (leave1; walk_say "STEP leave1"; try dsimp only) | fail "no step")
        dsimp only
        refine add_lit 100 (by decide) ?_
        iterate 2 (first | (k_unfold; (try dsimp only)) | (k_end; wrow_close) | walk1 | (dsimp only; walk1) | (leave1; walk_say "STEP leave1"; try dsimp only) | fail "no step")
        obtain ⟨N7⟩ := K7
        exact ⟨_, _, [], rfl, F7, N7, List.forall_mem_nil _, 99, _, hc2, rfl⟩
    · intro ys news2 hlen hy hin2 _ D3 h8 tk8 F8 N8 off
      obtain ⟨l4, rfl, hl4⟩ := ups_of ys vv (by simpa [S] using hlen) hy
      have K8 : Nonempty (News G L' h8 ((C, oC) :: (more ++ news))) := ⟨news_pick N8 fun p hp => .tail _ (hin2 p hp)⟩
      have N9 : News G L' h8 [(D3, lst (strValues l4))] := news_pick N8 (List.forall_mem_singleton.mpr (.head _))
      clear N₄ F₄ N8
      dsimp only
      iterate 1 (first | (k_unfold; (try dsimp only)) | (k_end; wrow_close) | walk1 | (dsimp only; walk1) | (leave1; walk_say "STEP leave1"; try dsimp only) | fail "no step")
      have hjl : (up1 vv).length ≤ 1000 := by have := nf_len vv hvn; unfold up1; rw [List.length_map]; omega
      refine join_eq (S (up1 vv)) (News.isList N9 (.head _)) hl4 (joinOk_single _ hjl) (join_single _) fun t9 k9 => ?_
      obtain ⟨N9⟩ := K8
      exact ⟨_, _, [], rfl, F8, N9, List.forall_mem_nil _, vv, t9, hvv, rfl⟩
  · intro ys news hlen hy hin _ D2 h tk F₄ N₄ off
    obtain ⟨lu, rfl, hlu⟩ := shorts2_of ys vs (by rw [← (show ld.length = vs.length by have e := congrArg List.length hld; rwa [List.length_map, List.length_map] at e)]; simpa [strValues] using hlen) hy
    have N₅ := news_pick N₄ (all := [(D2, lst (strValues lu)), (D', W.listOf (strValues l2).toArray 0), (Sh, lst (strValues ls)), (Du, lst (strValues ld)), (16, tabObj #[]), (79, tabObj #[])]) (List.forall_mem_cons.mpr ⟨.head _, fun p hp => .tail _ (hin p hp)⟩)
    clear N₄ N F off hin hy hlen
    dsimp only
    refine ne_strs (N₅.isList (.tail _ (.tail _ (.head _)))) (N₅.isList (.head _)) (hls.trans hlu.symm) ?_ (by show un + 3 + 64 < cLine; omega) ?_
    · intro z hz
      rw [hls] at hz
      obtain ⟨v, hv, rfl⟩ := List.mem_map.mp hz
      exact up_ok v (hnf.mem hv)
    iterate 3 (first | (k_unfold; (try dsimp only)) | (k_end; wrow_close) | walk1 | (dsimp only; walk1) | (leave1; walk_say "STEP leave1"; try dsimp only) | fail "no step")
    exact rest h tk F₄ (news_pick N₅ fun p hp => .tail _ hp)
end Mine
end
section
open PySem PySem.W PyProof.Rows PySem.Calls PyProof.Rows.LCg
set_option maxRecDepth 100000
set_option maxHeartbeats 1000000
namespace Mine
theorem st4 (w : World) {p : Program} {loose : List PySem.Str} (mean mg mb) (dp un : Nat) (fr : Option (List Env)) (gd : Option (List Code)) (s : Shared) (G : Heap) (L' D' Sh Du : Addr) (l2 ls ld : List (PySem.Str × Tok)) (vs : List (List Nat)) (f : PySem.Str → Option Value) (Qf : Flow → Shared → Prop)
   (hA : dp + 30 < recursionLimit) (hu : un + 200 < cLine) (X : (hdT.heap_1 w.params).In G) (T : Top p loose mean mg mb G)
   (F : Fr G L' s.heap (fun y => if y = Str.ofString "short" then some (.ref Sh) else if y = Str.ofString "due" then some (.ref Du) else if y = Str.ofString "words" then some (.ref D') else f y))
   (N : News G L' s.heap [(D', W.listOf (strValues l2).toArray 0), (Sh, lst (strValues ls)), (Du, lst (strValues ld)), (16, tabObj #[]), (79, tabObj #[])])
   (hw2 : wOk l2) (hld : ld.map (·.1) = vs.map S) (hnf : Nf l2 vs)
   (rest : ∀ (h : Heap) (tk : Nat), Fr G L' h (fun y => if y = Str.ofString "short" then some (.ref Sh) else if y = Str.ofString "due" then some (.ref Du) else if y = Str.ofString "words" then some (.ref D') else f y) →
      News G L' h [(D', W.listOf (strValues l2).toArray 0), (Sh, lst (strValues ls)), (Du, lst (strValues ld)), (16, tabObj #[]), (79, tabObj #[])] →
      wpAny (model Challenge.rw_pe0052_01.row.prog w) (Around.deeper { handled := none, depth := dp, frames := fr, guards := gd, units := un } (lEnv w.params L')) (execs ((lBody w.params).drop 4) (lEnv w.params L')) Qf (fun _ _ => False) ⟨h, s.gens, s.drawn, tk, s.os⟩) :
   wpAny (model Challenge.rw_pe0052_01.row.prog w) (Around.deeper { handled := none, depth := dp, frames := fr, guards := gd, units := un } (lEnv w.params L')) (execs ((lBody w.params).drop 3) (lEnv w.params L')) Qf (fun _ _ => False) s := by
  w_on
  revert X rest; k_fill; intro X rest
  obtain ⟨h0, g0, dr0, tk0, os0⟩ := s
  dsimp only at F N rest ⊢
  unfold lEnv at rest ⊢
  conv in (lBody w.params).drop 3 => whnf
  conv in (occs := *) lSc w.params => all_goals whnf
  have hlv : ld.length = vs.length := by
    have e := congrArg List.length hld
    rwa [List.length_map, List.length_map] at e
  have hln : ld.length ≤ 6 := by
    rw [hlv, hnf.len]; exact hw2.2.2
  iterate 3 (first | (k_unfold; (try dsimp only)) | (k_end; wrow_close) | walk1 | (dsimp only; walk1) | (leave1; walk_say "STEP leave1"; try dsimp only) | fail "no step")
  refine LCg.ListComp_U F (by rfl) (by decide) rfl (by decide) (by decide) ?_
  iterate 1 (first | (k_unfold; (try dsimp only)) | (k_end; wrow_close) | walk1 | (dsimp only; walk1) | (leave1; walk_say "STEP leave1"; try dsimp only) | fail "no step")
  refine LCg.CompSrc.ledger rfl F N (.head _) (by rw [sizeLine_eq]; simp [strValues]; have := hw2.2.2; omega) fun g => ?_
  refine comp_rest (fun i y nw => ∃ r o v, vs[i]? = some v ∧ y = .ref r ∧ (r, o) ∈ nw ∧ IsRow o (v.foldl st (0, 1, 2, 3))) (fun _ _ _ _ h => h.imp fun r h => h.imp fun o h => h.imp fun v h => ⟨h.1, h.2.1, List.mem_append_right _ h.2.2.1, h.2.2.2⟩) (fun _ _ h => srcAt_app h) _ _ (.inr ⟨_, .head _, rfl, _, rfl⟩) ?_ ?_
  · intro i v C oC m₂ h tk news more E' hi hP hoC hm₂ hC F₄ N₄ hCL hoff hin _
    obtain ⟨x, t, hx, rfl⟩ := str_at (i := i) (by simpa using hP)
    have hxx := hw2.1 _ (List.mem_of_getElem? hx)
    have N₅ : News G L' h [(C, oC)] := news_pick N₄ (List.forall_mem_singleton.mpr (List.mem_append_right _ (.head _)))
    clear N N₄
    iterate 10 (first | (k_unfold; (try dsimp only)) | (k_end; wrow_close) | walk1 | (dsimp only; walk1) | (leave1; walk_say "STEP leave1"; try dsimp only) | fail "no step")
    dsimp only
    iterate 9 (first | (k_unfold; (try dsimp only)) | (k_end; wrow_close) | walk1 | (dsimp only; walk1) | (leave1; walk_say "STEP leave1"; try dsimp only) | fail "no step")
    dsimp only
    refine wpAny_newList ?_
    have h1 : h.get? h.objs.size = none := Heap.get?_none_of_le (Nat.le_refl _)
    dsimp only
    generalize hlit : ({ cls := .type "list", data := .seq _ } : Obj) = lit
    have hro : IsRow lit (0, 1, 2, 3) := by rw [← hlit]; exact ⟨_, _, _, _, _, rfl⟩
    have hlf : lit.isFreed = false := by rw [← hlit]; rfl
    clear hlit
    have hk : ∀ b o, h.get? b = some o → (h.push lit).get? b = some o := fun b o e => Heap.get?_push_of_some _ e
    have hat : (h.push lit).get? h.objs.size = some lit := Heap.get?_push_size _ hlf
    have F₅ := F₄.keeps hk
    generalize h.push lit = h5 at hk hat F₅ ⊢
    generalize h.objs.size = r0 at h1 hat ⊢
    have N₆ := N₅.grown hk
    have hC5 := hk _ _ hC
    clear F₄ N₅ hC
    iterate 2 (first | (k_unfold; (try dsimp only)) | (k_end; wrow_close) | walk1 | (dsimp only; walk1) | (leave1; walk_say "STEP leave1"; try dsimp only) | fail "no step")
    refine red_sp w mean mg mb (dp + 1) _ _ _ _ x t r0 (0, 1, 2, 3) _ _ (Nat.lt_of_le_of_lt (by omega) hA) (by exact X.keeps F₅.keep) hxx.1 ⟨lit, hat, hro⟩ (by exact T.keeps F₅.keep) fun h6 tk6 r hs hz hr hf => ?_
    obtain ⟨vv, hvv, hvn, hva⟩ := hnf.get hx
    obtain ⟨o, er, hq⟩ := hr
    have hrn : h.get? r = none := by
      rcases hf with rfl | hf
      · exact h1
      · cases q : h.get? r with
        | none => rfl
        | some o' => exact absurd ((hk _ _ q).symm.trans hf) nofun
    exact ⟨_, _, [(r, o)], rfl, fun b o e => hs _ _ (hk _ _ e), List.forall_mem_singleton.mpr ⟨er, hrn⟩, r, o, vv, hvv, rfl, .head _, by rw [hva]; exact hq⟩
  · intro ys news hlen hy hin _ D2 h tk F₄ N₄ off
    have N₅ : News G L' h ((D2, lst ys) :: news) := N₄
    have hDu : (Du, lst (strValues ld)) ∈ (D2, lst ys) :: news := .tail _ (hin _ (.tail _ (.tail _ (.head _))))
    clear N₄ N F off
    dsimp only
    refine LCg.ListComp_U F₄ (by rfl) (by decide) rfl (by decide) (by decide) ?_
    iterate 1 (first | (k_unfold; (try dsimp only)) | (k_end; wrow_close) | walk1 | (dsimp only; walk1) | (leave1; walk_say "STEP leave1"; try dsimp only) | fail "no step")
    refine LCg.CompSrc.ledger rfl F₄ N₅ hDu (by rw [sizeLine_eq]; simp [strValues]; omega) fun g => ?_
    refine comp_rest (fun i y nw => ∃ r o v, vs[i]? = some v ∧ y = .ref r ∧ (r, o) ∈ nw ∧ IsRow o (v.foldl st (0, 1, 2, 3))) (fun _ _ _ _ h => h.imp fun r h => h.imp fun o h => h.imp fun v h => ⟨h.1, h.2.1, List.mem_append_right _ h.2.2.1, h.2.2.2⟩) (fun _ _ h => srcAt_app h) _ _ (.inr ⟨_, hDu, rfl, _, rfl⟩) ?_ ?_
    · intro i v C oC m₂ h tk news more E' hi hP hoC hm₂ hC F₆ N₆ hCL hoff hin _
      obtain ⟨x, t, hx, rfl⟩ := str_at (i := i) (by simpa using hP)
      obtain ⟨vv, hvv, rfl⟩ := dues_at hld hx
      have hvn : vv ∈ nf24 := hnf.mem (List.mem_of_getElem? hvv)
      have N₇ : News G L' h [(C, oC)] := news_pick N₆ (List.forall_mem_singleton.mpr (List.mem_append_right _ (.head _)))
      clear N₆ N₅ F₄
      iterate 8 (first | (k_unfold; (try dsimp only)) | (k_end; wrow_close) | walk1 | (dsimp only; walk1) | (leave1; walk_say "STEP leave1"; try dsimp only) | fail "no step")
      refine row_sp w mean mg mb (dp + 1) _ _ _ _ (S vv) t _ _ (Nat.lt_of_le_of_lt (by omega) hA) (by exact X.keeps F₆.keep) (fun c hc => nf_ltr vv hvn c (by simpa [S] using hc)) (by exact T.keeps F₆.keep) fun h6 tk6 r hs hz hr hf => ?_
      obtain ⟨o, er, hq⟩ := hr
      exact ⟨_, _, [(r, o)], rfl, hs, List.forall_mem_singleton.mpr ⟨er, hf⟩, r, o, vv, hvv, rfl, .head _, by simpa [S] using hq⟩
    · intro ys2 news2 hlen2 hy2 hin2 _ D3 h7 tk7 F₆ N₆ off
      have rd : ∀ (zs : List Value) (nw : List (Addr × Obj)), (∀ q ∈ nw, q ∈ (D3, lst ys2) :: news2) → (∀ (i : Nat) y, zs[i]? = some y → ∃ r o v, vs[i]? = some v ∧ y = .ref r ∧ (r, o) ∈ nw ∧ IsRow o (v.foldl st (0, 1, 2, 3))) →
          ∀ (i : Nat) y q, zs[i]? = some y → (vs.map fun v => v.foldl st (0, 1, 2, 3))[i]? = some q → ∃ r, y = .ref r ∧ RowAt h7 r q := by
        intro zs nw hnw hz i y q e1 e2
        obtain ⟨r, o, v, e3, rfl, hm, hr⟩ := hz i y e1
        rw [List.getElem?_map, e3] at e2
        cases e2
        exact ⟨r, rfl, o, (N₆ _ (hnw _ hm)).1, hr⟩
      dsimp only
      refine ne_rows (qs := vs.map fun v => v.foldl st (0, 1, 2, 3)) (N₆.isList (.tail _ (hin2 _ (.head _)))) (N₆.isList (.head _)) ?_ ?_ (rd ys news (fun q hq => .tail _ (hin2 _ (.tail _ hq))) hy) (rd ys2 news2 (fun q hq => .tail _ hq) hy2) (by show un + 3 + 64 < cLine; omega) ?_
      · rw [List.length_map, hnf.len, hlen]; simp [strValues]
      · rw [List.length_map, ← hlv, hlen2]; simp [strValues]
      clear rd
      have N₇ := news_pick N₆ (all := [(D', W.listOf (strValues l2).toArray 0), (Sh, lst (strValues ls)), (Du, lst (strValues ld)), (16, tabObj #[]), (79, tabObj #[])]) (fun p hp => .tail _ (hin2 p (.tail _ (hin p hp))))
      clear N₆ N₅ F₄
      iterate 3 (first | (k_unfold; (try dsimp only)) | (k_end; wrow_close) | walk1 | (dsimp only; walk1) | (leave1; walk_say "STEP leave1"; try dsimp only) | fail "no step")
      exact rest h7 tk7 F₆ N₇
end Mine
end
section
open PySem PySem.W PyProof.Rows PySem.Calls PyProof.Rows.LCg
set_option maxRecDepth 100000
set_option maxHeartbeats 1000000
namespace Mine
theorem st5 (w : World) {p : Program} {loose : List PySem.Str} (mean mg mb) (dp un : Nat) (fr : Option (List Env)) (gd : Option (List Code)) (s : Shared) (G : Heap) (L' D' Sh Du : Addr) (l2 ls ld : List (PySem.Str × Tok)) (vs : List (List Nat)) (f : PySem.Str → Option Value) (Q : Value → Shared → Prop)
   (hA : dp + 30 < recursionLimit) (hu : un + 200 < cLine) (X : (hdT.heap_1 w.params).In G) (XX : (kk w.params).In G) (C1 : CodeHd G 81 79) (T : Top p loose mean mg mb G)
   (F : Fr G L' s.heap (fun y => if y = Str.ofString "short" then some (.ref Sh) else if y = Str.ofString "due" then some (.ref Du) else if y = Str.ofString "words" then some (.ref D') else f y))
   (N : News G L' s.heap [(D', W.listOf (strValues l2).toArray 0), (Sh, lst (strValues ls)), (Du, lst (strValues ld)), (16, tabObj #[]), (79, tabObj #[])])
   (hw2 : wOk l2) (hls : ls.map (·.1) = vs.map (fun v => S (up1 v))) (hnf : Nf l2 vs)
   (hret : ∀ h' tk', G.StaysIn h' → GrownAll lTabs h' → Q (.bool true) ⟨h', s.gens, s.drawn, tk', s.os⟩) :
   wpAny (model Challenge.rw_pe0052_01.row.prog w) (Around.deeper { handled := none, depth := dp, frames := fr, guards := gd, units := un } (lEnv w.params L')) (execs ((lBody w.params).drop 4) (lEnv w.params L')) (fun fl s' => Q (match fl with | .ret v => v | _ => .none) s') (fun _ _ => False) s := by
  w_on
  revert X hret; k_fill; intro X hret
  obtain ⟨h0, g0, dr0, tk0, os0⟩ := s
  dsimp only at F N hret ⊢
  unfold lEnv at ⊢
  conv in (lBody w.params).drop 4 => whnf
  conv in (occs := *) lSc w.params => all_goals whnf
  have hL : ls.length = l2.length := by
    have e := congrArg List.length hls
    rw [List.length_map, List.length_map, hnf.len] at e
    exact e
  have hlen : ∀ x ∈ ls, x.1.length < 1000 ∧ PyData.strOk x.1 = true := fun x hx => by
    have : x.1 ∈ vs.map (fun v => S (up1 v)) := by rw [← hls]; exact List.mem_map_of_mem hx
    obtain ⟨v, hv, e⟩ := List.mem_map.mp this
    rw [← e]
    have h6 := nf_len v (hnf.mem hv)
    refine ⟨?_, up_ok v (hnf.mem hv)⟩
    simp [S, up1, PySem.Str.length]; omega
  iterate 17 (first | (k_unfold; (try dsimp only)) | (k_end; wrow_close) | walk1 | (dsimp only; walk1) | (leave1; walk_say "STEP leave1"; try dsimp only) | fail "no step")
  have n16 := N (16, tabObj #[]) (.tail _ (.tail _ (.tail _ (.head _))))
  have nSh := N (Sh, lst (strValues ls)) (.tail _ (.head _))
  refine mk_sp w mean mg mb (dp + 1) _ _ _ _ _ _ (by omega) (by show un + 3 + 20 < cLine; omega) (by exact X.keeps F.keep) (by exact XX.keeps F.keep) n16.1 (by exact T.keeps F.keep) fun k h1 tk1 hk1 hz1 hg1 M Nw => ?_
  obtain ⟨ps, hps⟩ := hg1
  obtain ⟨oI, oL, KLk, hko⟩ := M.led
  have hn := Nw.objs oI oL
  have F1 : Fr G L' h1 _ := ⟨ns_at F.ns fun o e => hk1 L' o n16.2.1.symm e, fun b o e => hk1 b o (fun q => by rw [q, n16.2.2] at e; cases e) (F.keep b o e), F.above⟩
  have ne16 : Sh ≠ 16 := fun q => by
    have e := nSh.1
    rw [show (Sh, lst (strValues ls)).1 = 16 from q, n16.1] at e
    cases e
  have N1 : News G L' h1 ((Sh, lst (strValues ls)) :: (79, tabObj #[]) :: (16, tabObj ps) :: kObjs w k oI oL) := fun p hp => by
    rcases List.mem_cons.mp hp with rfl | hp
    · exact ⟨hk1 _ _ ne16 nSh.1, nSh.2⟩
    · rcases List.mem_cons.mp hp with rfl | hp
      · have n79 := N (79, tabObj #[]) (.tail _ (.tail _ (.tail _ (.tail _ (.head _)))))
        exact ⟨hk1 _ _ (by decide) n79.1, n79.2⟩
      · rcases List.mem_cons.mp hp with rfl | hp
        · exact ⟨hps, n16.2⟩
        · have hlt := Nat.lt_of_lt_of_le F.ns.lt (hn p hp)
          exact ⟨hko p hp, Nat.ne_of_gt hlt, Heap.get?_none_of_le (Nat.le_trans F.above (Nat.le_of_lt hlt))⟩
  clear hk1 hz1 hps M Nw hko hn n16 nSh ne16 N F
  dsimp only
  iterate 1 (first | (k_unfold; (try dsimp only)) | (k_end; wrow_close) | walk1 | (dsimp only; walk1) | (leave1; walk_say "STEP leave1"; try dsimp only) | fail "no step")
  refine sort_K w mean mg mb (dp + 1) _ _ _ _ G L' _ _ k oI oL Sh ls _ _ (by omega) (by show un + 3 + 100 < cLine; omega) X XX T F1 N1 (fun p hp => .tail _ (.tail _ (.tail _ hp))) KLk (N1.isList (.head _)) (by rw [hL]; exact hw2.2.1) (by rw [hL]; exact hw2.2.2) (fun x hx => (hlen x hx).1) fun D h2 tk2 c F2 N2 l2' => ?_
  have N3 := news_pick N2 (all := [(D, seqObj "list" (strValues (srt ls)).toArray c), (Sh, lst (strValues ls)), (79, tabObj #[]), (16, tabObj ps)]) (by intro p hp; simp only [List.mem_cons, List.not_mem_nil, or_false] at hp ⊢; rcases hp with rfl | rfl | rfl | rfl <;> simp)
  have lSh : Sh < D := l2' _ (.head _)
  have l79 : 79 < D := l2' (79, tabObj #[]) (.tail _ (.head _))
  have ne79 : Sh ≠ 79 := fun q => by
    have e := (N3 _ (.tail _ (.head _))).1
    have n79 := N3 (79, tabObj #[]) (.tail _ (.tail _ (.head _)))
    rw [show (Sh, lst (strValues ls)).1 = 79 from q, n79.1] at e
    cases e
  clear l2' N2 N1 F1 KLk
  dsimp only
  iterate 7 (first | (k_unfold; (try dsimp only)) | (k_end; wrow_close) | walk1 | (dsimp only; walk1) | (leave1; walk_say "STEP leave1"; try dsimp only) | fail "no step")
  refine kla_eval (by rfl) ?_
  k_dflt (refine' kla_nest F2 N3 T C1 (by rfl) (.tail (Nat.ne_of_gt l79) (.tail ne79 (.head (List.forall_mem_singleton.mpr (show (16 : Nat) ≠ 79 by decide))))) True.intro (by rfl) (by rfl) ?_)
  intro f' c' oc' vs' t' ct' h4 tk4 F4 N4 d1' d2' l1 l2
  have N5 : News G L' h4 [(f', _), (c', oc'), (D, seqObj "list" (strValues (srt ls)).toArray c), (Sh, lst (strValues ls)), (79, tabObj _), (16, tabObj ps)] := N4
  clear N4 N3 F2
  dsimp only
  iterate 1 (first | (k_unfold; (try dsimp only)) | (k_end; wrow_close) | walk1 | (dsimp only; walk1) | (leave1; walk_say "STEP leave1"; try dsimp only) | fail "no step")
  refine sort_L w mean mg mb (dp + 1) _ _ _ _ G L' _ _ _ _ _ f' c' Sh ls _ _ (by omega) (by show un + 3 + 100 < cLine; omega) X T F4 N5 (.head _) ⟨oc', vs', t', .tail _ (.head _), d1', d2'⟩ (N5.isList (.tail _ (.tail _ (.tail _ (.head _))))) (by rw [hL]; exact hw2.2.1) (by rw [hL]; exact hw2.2.2) (fun x hx => (hlen x hx).1) fun D6 h6 tk6 c6 F6 N6 l6 => ?_
  clear N5 F4
  dsimp only
  refine eq_strs (N6.isList (.tail _ (.tail _ (.tail _ (.head _))))) (N6.isList (.head _)) rfl ?_ (by show un + 3 + 64 < cLine; omega) ?_
  · intro z hz
    obtain ⟨x, hx, rfl⟩ := List.mem_map.mp hz
    exact (hlen x (srt_mem (by rw [hL]; exact hw2.2.1) (by rw [hL]; exact hw2.2.2) x hx)).2
  have g16 : GrownAt 16 h6 := GrownAt.of N6 (ps := ps) (.tail _ (.tail _ (.tail _ (.tail _ (.tail _ (.tail _ (.head _)))))))
  have g79 : GrownAt 79 h6 := GrownAt.of N6 (.tail _ (.tail _ (.tail _ (.tail _ (.tail _ (.head _))))))
  exact hret _ _ F6.keep ⟨g16, g79, True.intro⟩
end Mine
end
section
open PySem PySem.W PyProof.Rows PySem.Calls PyProof.Rows.LCg
set_option maxRecDepth 100000
set_option maxHeartbeats 1000000
namespace Mine
theorem kk_ghost {P : Params} {h : Heap} (XX : (kk P).In h) : (kk P).In (ghostOf h lTabs) := fun a o e => by
  refine ghost_ne (XX a o e) fun hm => ?_
  simp only [lTabs, List.map_cons, List.map_nil, List.mem_cons, List.not_mem_nil, or_false] at hm
  rcases hm with rfl | rfl
  · rw [show List.lookup 16 (kk P) = none by kernel_rfl!] at e; cases e
  · rw [show List.lookup 79 (kk P) = none by kernel_rfl!] at e; cases e
theorem law_sp (w : World) {p : Program} {loose : List PySem.Str} (mean mg mb) (dp un : Nat) (fr : Option (List Env)) (gd : Option (List Code)) (s : Shared) (sc : Addr) (l : List (Int × Tok)) (R : Result → Shared → Prop)
   (hA : dp + 30 < recursionLimit) (hu : un + 200 < cLine) (X : (hdT.heap_1 w.params).In s.heap) (XX : (kk w.params).In s.heap) (hT : TabsAt lTabs s.heap) (hl : s.heap.IsList sc (intVals l).toArray) (hn : l.length ≤ 63)
   (T : Top p loose mean mg mb s.heap) (hret : ∀ h' tk', (ghostOf s.heap lTabs).StaysIn h' → GrownAll lTabs h' → R (.ok (.ret (.bool true))) ⟨h', s.gens, s.drawn, tk', s.os⟩) :
   codeAny (model Challenge.rw_pe0052_01.row.prog w) { handled := none, depth := dp, frames := fr, guards := gd, units := un } (.call (.ref 82) ⟨[.ref sc], []⟩) R s := by
  have X0 := ghost_K hT X (by kernel_rfl!)
  have T0 := ghost_top hT T
  have C0 : CodeHd (ghostOf s.heap lTabs) 81 79 := (ghost_code hT).2.1
  have XX0 := kk_ghost XX
  refine st1 w mean mg mb dp un fr gd s sc l R hA hu X hT hl hn T fun L' h tk D' d o8 oD l2 kvs F N d8 hw2 hD hk lo => ?_
  refine st2 w mean mg mb dp un fr gd ⟨h, s.gens, s.drawn, tk, s.os⟩ _ L' D' d o8 oD l2 kvs _ _ hA X0 T0 F N d8 hw2 hD hk lo fun h tk Sh Du ls ld vs F N hls hld hnf => ?_
  refine st3 w mean mg mb dp un fr gd ⟨h, s.gens, s.drawn, tk, s.os⟩ _ L' D' Sh Du l2 ls ld vs _ _ hA hu X0 T0 F N hw2 hls hld hnf fun h tk F N => ?_
  refine st4 w mean mg mb dp un fr gd ⟨h, s.gens, s.drawn, tk, s.os⟩ _ L' D' Sh Du l2 ls ld vs _ _ hA hu X0 T0 F N hw2 hld hnf fun h tk F N => ?_
  exact st5 w mean mg mb dp un fr gd ⟨h, s.gens, s.drawn, tk, s.os⟩ _ L' D' Sh Du l2 ls ld vs _ (fun v s' => R (.ok (.ret v)) s') hA hu X0 XX0 C0 T0 F N hw2 hls hnf hret
end Mine
end
section
open PySem PySem.W PySem.W.X PyProof.Rows PySem.Calls
set_option maxRecDepth 100000
set_option maxHeartbeats 1000000
namespace Mine
theorem ints_vals : ∀ {vs : List Value} {ns : List Int}, IntsAre vs ns → ∃ l, vs = intVals l ∧ l.length = ns.length
  | _, _, .nil => ⟨[], rfl, rfl⟩
  | _, _, .cons n t r => by
    obtain ⟨l, e, h⟩ := ints_vals r
    exact ⟨(n, t) :: l, by rw [e]; rfl, by simp [h]⟩
theorem lookup_app : ∀ {A B : Frag} {a : Addr} {o : Obj}, A.lookup a = some o → List.lookup a (A ++ B) = some o
  | [], _, a, o, h => by cases h
  | (b, x) :: r, B, a, o, h => by
    rw [List.cons_append, List.lookup_cons]
    rw [List.lookup_cons] at h
    cases e : a == b with
    | true => rw [e] at h; exact h
    | false => rw [e] at h; exact lookup_app h
theorem kM_eq (P : Params) : kM P = kk P ++ [(16, { cls := .none, data := .fields #[] }), (79, { cls := .none, data := .fields #[] })] := by
  unfold kM kk
  rw [List.append_assoc]
  rfl
theorem kk_of {P : Params} {h : Heap} (KX : (kM P).In h) : (kk P).In h := fun a o e => KX a o (by rw [kM_eq]; exact lookup_app e)
theorem hd_of {P : Params} {h : Heap} (KX : (kM P).In h) : (hdT.heap_1 P).In h := fun a o e => KX a o (lookup_app e)
theorem tabs_of {P : Params} {h : Heap} (KX : (kM P).In h) : TabsAt lTabs h :=
  List.forall_mem_cons.mpr ⟨⟨codeHd_of_K KX (by kernel_rfl!), KX 16 _ (by kernel_rfl!)⟩, List.forall_mem_singleton.mpr ⟨codeHd_of_K KX (by kernel_rfl!), KX 79 _ (by kernel_rfl!)⟩⟩
theorem fin : Challenge.rw_pe0052_01.Holds := hm (by
  k_fill
  intro w s₀ s₁ mg mb G Y fa o pm cd doc dV kV ho hd hcd hD hmg hg args vals as hpre hlay hrd hwl hlo
  have KX := kIn_of Y
  refine Ground.open G ?_
  intro T B D TE TW
  have h82 : mg (Str.ofString "law") = some (.ref 82) := mg_of (hd_of KX) T.g (by kernel_rfl!)
  have hfa : fa = 82 := by
    have e : some (Value.ref fa) = some (.ref 82) := hmg.symm.trans h82
    cases e; rfl
  subst hfa
  clear ho hd hcd hD hmg h82 Y
  wrow_args hpre hlay hrd hwl hlo
  rename IntsAre _ _ => hI
  rename Heap.IsList _ _ _ => hl
  rename ¬ _ < _ => hc
  obtain ⟨l, rfl, hln⟩ := ints_vals hI
  refine enter_call ?_
  refine kn_post (tabs_of KX) (fun _ _ => rfl) ?_
  refine law_sp w _ mg mb _ _ _ _ s₁ _ l _ ?_ ?_ (hd_of KX) (kk_of KX) (tabs_of KX) hl ?_ T fun h' tk' hs hgr => ?_
  · show 1 + claimMargin + 30 < recursionLimit
    decide +kernel
  · show 4 + 200 < cLine
    decide +kernel
  · rw [hln]; omega
  · refine ⟨⟨.inl ⟨_, _, _, rfl, fun _ => rfl, .bool true, ?_, fun _ => ⟨List.nodup_nil, List.forall_mem_nil _⟩⟩, hs, rfl, hg⟩, hgr⟩

    first | wrow_post | rfl | (exact postW_of (by wrow_shape) (by wtm_val) (by w_fin)))
end Mine
end
set_option maxRecDepth 100000 in
set_option maxHeartbeats 8000000 in
theorem PySem.Challenge.cw_pe0052_01_holds : PySem.Challenge.rw_pe0052_01.Holds := by
  exact Mine.fin
