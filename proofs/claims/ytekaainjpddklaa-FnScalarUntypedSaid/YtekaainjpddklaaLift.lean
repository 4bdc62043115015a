/-
  From a walk to a row: a law that answers true and leaves what stood, over arguments as a row reads them.
-/
import Derived.Test.YtekaainjpddklaaOpen
import Derived.SizedLaws
import Derived.ChangeSame
import Derived.Carry
import Derived.ProofKit
namespace Go.Proofs.Ytekaainjpddklaa
open Go.ChangeShapes Go.WideShapes Go.ChangeAt Go.RowKit

section
variable {H : Type} {enc : TypeId × Value → H} {P : Program}
theorem stays_all (hl : laidOutB P = true) {W W' : World} (hb : Below W.heap.size W W') {sp : Nat → Bool} : ∀ (ts : List TypeId) (vs : List Value) (ds : List (DataW H)) (ps : List MemPlace), (∀ t ∈ ts, P.readableRec t = true ∧ t < P.types.size) →
    DataW.TrodAll enc P W 0 (fun _ => true) true ts vs ds ps → (∀ x ∈ ps, x.block < W.heap.size) → (∀ x ∈ ps, sp x.block = true) → DataW.TrodAll enc P W' 0 sp true ts vs ds ps
  | [], [], [], ps, _, h, _, _ => h
  | [], [], _ :: _, _, _, h, _, _ => by simp [DataW.TrodAll] at h
  | [], _ :: _, _, _, _, h, _, _ => by simp [DataW.TrodAll] at h
  | _ :: _, [], _, _, _, h, _, _ => by simp [DataW.TrodAll] at h
  | _ :: _, _ :: _, [], _, _, h, _, _ => by simp [DataW.TrodAll] at h
  | t :: ts, v :: vs, d :: ds, ps, hr, h, hlt, hsp => by
    obtain ⟨p, q, h1, h2, rfl⟩ := h
    have ht := hr t (by simp)
    refine ⟨p, q, WideElems.Trod_stays hl ht.1 ht.2 h1 (fun x hx => hb.same (hlt x (List.mem_append_left _ hx))) (fun x hx => hsp x (List.mem_append_left _ hx)), ?_, rfl⟩
    exact stays_all hl hb ts vs ds q (fun t' ht' => hr t' (by simp [ht'])) h2 (fun x hx => hlt x (List.mem_append_right _ hx)) fun x hx => hsp x (List.mem_append_right _ hx)

theorem trodAll_len {w : World} {base : Nat} {sp : Nat → Bool} {hd : Bool} : ∀ {ts : List TypeId} {vs : List Value} {ds : List (DataW H)} {ps : List MemPlace}, DataW.TrodAll enc P w base sp hd ts vs ds ps → vs.length = ts.length ∧ ds.length = ts.length
  | [], _, _, _, h => by
    obtain ⟨rfl, rfl, _⟩ := trodAll_nil h
    exact ⟨rfl, rfl⟩
  | _ :: _, _, _, _, h => by
    obtain ⟨v, vs1, d, ds1, a, b, rfl, rfl, rfl, _, h2⟩ := trodAll_cons h
    have := trodAll_len h2
    simp [this.1, this.2]

theorem post_true {f : Func} {s : ChangeSpec} {apart fresh handsOn again : Bool} {W W' : World} {args : Array Value} {ds gs : List (DataW H)} {before : List MemPlace} {tb : TypeId} (hl : laidOutB P = true) (hrd : ∀ t ∈ f.params.toList, P.readableRec t = true ∧ t < P.types.size)
    (hres : f.resultTypes = #[tb]) (hub : P.underlying tb = some .bool) (hvars : s.vars = []) (hfn : s.fn H (ds ++ gs) = { results := [.lit (.bool true)], args := ds })
    (hW : DataW.Whole enc P f.params.toList s.vars apart W args.toList ds gs before) (hb : Below W.heap.size W W') :
    s.post enc P f apart fresh handsOn again W args (.bool true) W' := by
  have hlt : ∀ p ∈ before, p.block < W.heap.size := fun p hp => hW.lt p hp
  have hold : ∀ p ∈ before, (fun b => decide (b < W.heap.size)) p.block = true := fun p hp => by simpa using hlt p hp
  have hW0 := hW
  obtain ⟨p, q, hA, hV, hpq, hz, hn⟩ := hW0
  rw [hvars] at hV
  obtain ⟨rfl, rfl⟩ := trodVars_none hV
  rw [List.append_nil] at hpq
  subst hpq
  have hargs : ∀ sp : Nat → Bool, (∀ x ∈ before, sp x.block = true) → DataW.TrodAll enc P W' 0 sp true f.params.toList args.toList ds before := fun sp hsp => stays_all hl hb _ _ _ _ hrd hA hlt hsp
  have hbool : ∀ (b : Nat) (sp : Nat → Bool) (hd : Bool), DataW.TrodAll enc P W' b sp hd f.resultTypes.toList ((Value.bool true).resultList f.resultTypes.size) [.lit (.bool true)] [] := fun b sp hd => by
    rw [hres]; exact trodAll_mk1 (shut_bool hub true)
  have hvv : ∀ sp : Nat → Bool, DataW.TrodVars enc P W' sp s.vars (s.fn H (ds ++ [])).vars [] := fun sp => by rw [hvars, hfn]; rfl
  refine ⟨ds, [], before, [], before, [], hW, ?_, ?_, hvv _, World.keptBut_mono (fun p hp => ⟨hp, .inr (.inl hp)⟩) (hb.frame (· ∈ before)), fun _ => ?_⟩
  · rw [hfn]; exact hbool _ _ _
  · rw [hfn]; exact hargs _ hold
  · refine ⟨ok_one hres rfl (okWide_bool_mk hub true), _, _, ([] ++ before) ++ [], ⟨[] ++ before, [], trodAll_append (hargs _ (fun _ _ => rfl)) (hbool 0 (fun _ => true) true), hvv _, rfl, ?_, ?_⟩, ?_⟩
    · intro b off hp
      have hin : MemPlace.cell b off ∈ before := by simpa using hp
      rw [hb.frozen (hlt _ hin)]
      exact hz b off hin
    · intro ha
      simpa using hn ha
    · intro p hp _
      simpa using hp
end

set_option maxRecDepth 100000 in
/-- THE LIFT: of a law that answers true and leaves what stood -/
theorem lift_true {os : Os} {f : FuncId} {fn : Func} {s : ChangeSpec} {conds : List PathCond} {H : Type} {enc : TypeId × Value → H} {apart fresh handsOn again : Bool} (started : os.Started) (own : ownKnob Try.prog.godebug = none) (hl : laidOutB Try.prog = true)
    (noInit : Try.prog.inits.idxOf? f = none) (hfunc : Try.prog.funcs[f]? = some fn) (hrd : ∀ t ∈ fn.params.toList, Try.prog.readableRec t = true ∧ t < Try.prog.types.size) (hres : fn.resultTypes = #[4]) (hvars : s.vars = [])
    (hfn : ∀ ds : List (DataW H), ds.length = fn.params.size → s.fn H ds = { results := [.lit (.bool true)], args := ds })
    (witness : ∃ (w : World) (tape : Tape) (i : Input), w.os = os ∧ (w.forCall tape i).Shaped Try.prog ∧ i.vars = [] ∧ Input.okWide Try.prog (w.forCall tape i) .any w.heap.size f i ∧
      s.pre6 enc Try.prog fn conds apart (w.forCall tape i).memory i.args ∧ ({} : Assume).holds Try.prog (lone (Frame.enter Try.prog f i.args .normal) [] (w.forCall tape i)))
    (hcalls : ∀ (W : World) (base : Nat) (args : Array Value) (ds : List (DataW H)) (ps : List MemPlace), (∀ (j : Nat) t v, fn.params[j]? = some t → args[j]? = some v → Value.okWide Try.prog W .any base t v) → DataW.TrodAll enc Try.prog W 0 (fun _ => true) true fn.params.toList args.toList ds ps →
      SmallEach fn.params.toList ds → Calls Try.prog f args W fun e W' => e = .returned (.bool true) ∧ Below W.heap.size W W') :
    ReturnsInHanded {} Try.checked os f .any (s.pre6 enc Try.prog fn conds apart) (s.post enc Try.prog fn apart fresh handsOn again) := by
  refine returnsInHanded_of_change_sized (C := Try.checked) own started noInit hfunc witness ?_
  intro W base args ds gs before hval hW _ hsz _
  have hW0 := hW
  obtain ⟨p, q, hA, hV, hpq, hz, hn⟩ := hW0
  rw [hvars] at hV
  obtain ⟨rfl, rfl⟩ := trodVars_none hV
  have hvt : s.plain.varTypes Try.checked.prog = [] := by
    unfold DataSpec.varTypes
    rw [show s.plain.vars = [] from hvars]
    rfl
  rw [hvt, List.append_nil, List.append_nil] at hsz
  have hlen : ds.length = fn.params.size := by
    have := trodAll_len hA
    simpa using this.2
  refine (hcalls W base args ds p hval hA (smallEach_of hsz)).mono ?_
  rintro e W' ⟨rfl, hb⟩
  exact ⟨_, rfl, post_true hl hrd hres Try.underlying4 hvars (by rw [List.append_nil]; exact hfn ds hlen) hW hb⟩

end Go.Proofs.Ytekaainjpddklaa
