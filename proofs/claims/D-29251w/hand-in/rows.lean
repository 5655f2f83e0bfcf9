section
-- ===== PART A: goes FIRST, ahead of the names: the tables' words, and 'selects' of the private methods out of them =====
/-- a private method of a class that the tables say can be made, by its rows of tables_1 -/
def lw_okq (q : MethodName × Nat) : Prop := (q.1.cls ≠ "java/lang/invoke/MethodHandle" ∧ q.1.cls ≠ "java/lang/invoke/VarHandle") ∧ Cond.instantiable q.1.cls q.2 ∈ tables_1 ∧ Cond.privateMethod q.1 ∈ tables_1 ∧ Cond.instanceMethod q.1 ∈ tables_1
def lw_privs : List (MethodName × Nat) := []
def lw_tbl : List Cond := k2_sels lw_privs ++ tables_1
theorem lw_privs_ok : ∀ q ∈ lw_privs, lw_okq q := fun _ h => absurd h List.not_mem_nil
-- ===== ONE list of words for every method: the tables' words that hold all through a run =====
def lw_all : List Cond := lw_tbl.filter goodWord
/-- a word of the tables by its place: claim/WORDS.tsv -/
theorem lw_w {w : Cond} (i : Nat) (h : lw_tbl[i]? = some w) (g : goodWord w = true) : w ∈ lw_all := List.mem_filter.mpr ⟨List.mem_of_getElem? h, g⟩
theorem lw_all_tbl {w : Cond} (h : w ∈ lw_all) : w ∈ lw_tbl := (List.mem_filter.mp h).1
theorem lw_self : GoodIn lw_all lw_all := fun w h => ⟨h, good_of_word (List.mem_filter.mp h).2⟩
/-- a class's field words, by their places -/
theorem lw_in (ws : List Cond) (ps : List Nat) (hp : ws = ps.filterMap (fun i => lw_tbl[i]?)) (hg : ws.all goodWord = true) : ∀ w ∈ ws, w ∈ lw_all := by
  intro w h
  have h1 := List.all_eq_true.mp hg w h
  rw [hp] at h
  obtain ⟨i, -, hi⟩ := List.mem_filterMap.mp h
  exact lw_w i hi h1
/-- the words of a contract for the method y with code b, L locals, answer r -/
abbrev ws_ (y : MethodName) (b : ByteArray) (L : Nat) (r : Option FieldType) : List Cond := Cond.code y b L r :: lw_all
theorem lw_meth {y : MethodName} {b : ByteArray} {L : Nat} {r : Option FieldType} (h : Cond.code y b L r ∈ lw_all) : GoodIn lw_all (ws_ y b L r) := by
  intro w hw
  rcases List.mem_cons.mp hw with e | e
  · rw [e]
    exact lw_self _ h
  · exact lw_self _ e
theorem lw_app {a c : List Cond} (ha : ∀ w ∈ a, w ∈ lw_all) (hc : GoodIn lw_all c) : GoodIn lw_all (a ++ c) := by
  intro w hw
  rcases List.mem_append.mp hw with e | e
  · exact lw_self w (ha w e)
  · exact hc w e
/-- what a call through an object asks: cwV n hts (lw_V ..) -/
theorem lw_V {own : String} {idx : Nat} {C : String} {y : MethodName} {b : ByteArray} {L : Nat} {r : Option FieldType} (h1 : Cond.methodLink own idx y ∈ lw_all) (h2 : Cond.instanceMethod y ∈ lw_all) (h3 : Cond.selects C y y ∈ lw_all) (h4 : Cond.initialized C ∈ lw_all) (h5 : Cond.code y b L r ∈ lw_all) : GoodIn lw_all (wsV own idx C y (ws_ y b L r)) := by
  refine lw_app ?_ (lw_meth h5)
  intro w hw
  simp only [List.mem_cons, List.not_mem_nil, or_false] at hw
  rcases hw with e | e | e | e
  · rw [e]; exact h1
  · rw [e]; exact h2
  · rw [e]; exact h3
  · rw [e]; exact h4
/-- what a static call asks: va_cwS n hts (lw_S ..) -/
theorem lw_S {own : String} {idx : Nat} {y : MethodName} {b : ByteArray} {L : Nat} {r : Option FieldType} (h1 : Cond.methodLink own idx y ∈ lw_all) (h2 : Cond.static y ∈ lw_all) (h3 : Cond.initialized y.cls ∈ lw_all) (h4 : Cond.code y b L r ∈ lw_all) : GoodIn lw_all (va_wsS own idx y (ws_ y b L r)) := by
  refine lw_app ?_ (lw_meth h4)
  intro w hw
  simp only [List.mem_cons, List.not_mem_nil, or_false] at hw
  rcases hw with e | e | e
  · rw [e]; exact h1
  · rw [e]; exact h2
  · rw [e]; exact h3
/-- the words of a contract for a method WITH HANDLERS (hh: its table) -/
abbrev wsW_ (y : MethodName) (b : ByteArray) (L : Nat) (r : Option FieldType) (hh : List (Nat × Nat × Nat × Nat)) : List Cond := Cond.codeWith y b L r hh :: lw_all
theorem lw_methW {y : MethodName} {b : ByteArray} {L : Nat} {r : Option FieldType} {hh : List (Nat × Nat × Nat × Nat)} (h : Cond.codeWith y b L r hh ∈ lw_all) : GoodIn lw_all (wsW_ y b L r hh) := by
  intro w hw
  rcases List.mem_cons.mp hw with e | e
  · rw [e]
    exact lw_self _ h
  · exact lw_self _ e
/-- any list of words by their places (lw_in), good -/
theorem lw_good {ws : List Cond} (h : ∀ w ∈ ws, w ∈ lw_all) : GoodIn lw_all ws := fun w hw => lw_self w (h w hw)
/-- what a call of a method with handlers asks: vx_cwVW n hts (lw_VW ..), vx_cwSW n hts (lw_SW ..) -/
theorem lw_VW {own : String} {idx : Nat} {C : String} {y : MethodName} {b : ByteArray} {L : Nat} {r : Option FieldType} {hh : List (Nat × Nat × Nat × Nat)} (h1 : Cond.methodLink own idx y ∈ lw_all) (h2 : Cond.instanceMethod y ∈ lw_all) (h3 : Cond.selects C y y ∈ lw_all) (h4 : Cond.initialized C ∈ lw_all) (h5 : Cond.codeWith y b L r hh ∈ lw_all) : GoodIn lw_all (wsV own idx C y (wsW_ y b L r hh)) := by
  refine lw_app ?_ (lw_methW h5)
  intro w hw
  simp only [List.mem_cons, List.not_mem_nil, or_false] at hw
  rcases hw with e | e | e | e
  · rw [e]; exact h1
  · rw [e]; exact h2
  · rw [e]; exact h3
  · rw [e]; exact h4
theorem lw_SW {own : String} {idx : Nat} {y : MethodName} {b : ByteArray} {L : Nat} {r : Option FieldType} {hh : List (Nat × Nat × Nat × Nat)} (h1 : Cond.methodLink own idx y ∈ lw_all) (h2 : Cond.static y ∈ lw_all) (h3 : Cond.initialized y.cls ∈ lw_all) (h4 : Cond.codeWith y b L r hh ∈ lw_all) : GoodIn lw_all (va_wsS own idx y (wsW_ y b L r hh)) := by
  refine lw_app ?_ (lw_methW h4)
  intro w hw
  simp only [List.mem_cons, List.not_mem_nil, or_false] at hw
  rcases hw with e | e | e
  · rw [e]; exact h1
  · rw [e]; exact h2
  · rw [e]; exact h3
/-- a word by its place in its run of the tables -/
theorem lw_at {r : List Cond} (hr : ∀ w ∈ r, w ∈ lw_tbl) {w : Cond} (i : Nat) (h : r[i]? = some w) : w ∈ lw_tbl := hr w (List.mem_of_getElem? h)
theorem lw_g {w : Cond} (h : w ∈ lw_tbl) (g : goodWord w = true) : w ∈ lw_all := List.mem_filter.mpr ⟨h, g⟩
theorem lw_ms : ∀ w ∈ k2_sels lw_privs, w ∈ lw_tbl := fun w h => show w ∈ k2_sels lw_privs ++ tables_1 from List.mem_append_left _ h
theorem lw_m0 : ∀ w ∈ tables_1, w ∈ lw_tbl := fun w h => show w ∈ k2_sels lw_privs ++ tables_1 from List.mem_append_right (k2_sels lw_privs) h
/-! DECODE ROWS BY BYTES: one lemma an opcode; a method's code is cut into short pieces once, and a row reads its own piece alone. -/
set_option maxRecDepth 100000
/-- the code has just these bytes from pc on -/
def DkAt (code : ByteArray) (pc : Nat) (bs : List UInt8) : Prop := ∀ (j : Nat) (b : UInt8), bs[j]? = some b → code.data.toList[pc + j]? = some b
/-- the piece W has the bytes bs from its place j on -/
def dkIn (W : List UInt8) (j : Nat) (bs : List UInt8) : Bool := decide ((W.drop j).take bs.length = bs)
theorem dk_seg {l W T : List UInt8} {o o2 : Nat} (h : l.drop o = W ++ T) (n : Nat) (hn : W.length = n) (ho : o + n = o2) : l.drop o2 = T := by
  subst ho
  rw [← List.drop_drop, h, List.drop_left' hn]
theorem dk_at {code : ByteArray} {W T bs : List UInt8} {o pc : Nat} (h : code.data.toList.drop o = W ++ T) (j : Nat) (hp : o + j = pc) (hw : dkIn W j bs = true) : DkAt code pc bs := by
  subst hp
  intro i b e
  have h1 := of_decide_eq_true hw
  have h2 : i < bs.length := (List.getElem?_eq_some_iff.mp e).1
  have h3 : W[j + i]? = some b := by
    rw [← h1, List.getElem?_take, if_pos h2, List.getElem?_drop] at e
    exact e
  have h4 : j + i < W.length := (List.getElem?_eq_some_iff.mp h3).1
  have h5 : (code.data.toList.drop o)[j + i]? = some b := by
    rw [h, List.getElem?_append_left h4]
    exact h3
  rw [List.getElem?_drop, ← Nat.add_assoc] at h5
  exact h5
theorem dk_u1 {A : ByteArray} {p : Nat} {b : UInt8} (h : A.data.toList[p]? = some b) : (Reader.u1 : Reader DecodeError Nat) A p = .ok (b.toNat, p + 1) := by
  obtain ⟨h1, h2⟩ := List.getElem?_eq_some_iff.mp h
  have h3 : p < A.size := by simpa using h1
  have h4 : A[p]'h3 = b := h2
  have e : (Reader.u1 : Reader DecodeError Nat) A p = (if h : p < A.size then .ok (A[p].toNat, p + 1) else .error (HasTruncated.truncated p)) := by
    show (do if h : p < A.size then do set (p + 1); Pure.pure A[p].toNat else MonadExcept.throw (HasTruncated.truncated p) : Reader DecodeError Nat) A p = _
    by_cases hi : p < A.size
    · rw [dif_pos hi, dif_pos hi]; rfl
    · rw [dif_neg hi, dif_neg hi]; rfl
  rw [e, dif_pos h3, h4]
theorem dk_bind {α β : Type} {r : Reader DecodeError α} {f : α → Reader DecodeError β} {A : ByteArray} {p s : Nat} {a : α} (h : r A p = .ok (a, s)) : (r >>= f) A p = f a A s := by
  show (do let (a, s) ← r A p; f a A s : Except DecodeError (β × Nat)) = _
  rw [h]
  rfl
theorem dk_map {α β : Type} {r : Reader DecodeError α} {g : α → β} {A : ByteArray} {p s : Nat} {a : α} (h : r A p = .ok (a, s)) : (g <$> r) A p = .ok (g a, s) := by
  show (do let (a, s) ← r A p; .ok (g a, s) : Except DecodeError (β × Nat)) = _
  rw [h]
  rfl
theorem dk_u2 {A : ByteArray} {p : Nat} {a b : UInt8} (h : A.data.toList[p]? = some a) (h2 : A.data.toList[p + 1]? = some b) : (Reader.u2 : Reader DecodeError Nat) A p = .ok (a.toNat * 256 + b.toNat, p + 2) := by
  show (Reader.u1 >>= fun hi => Reader.u1 >>= fun lo => Pure.pure (hi * 256 + lo) : Reader DecodeError Nat) A p = _
  rw [dk_bind (dk_u1 h), dk_bind (dk_u1 h2)]
  rfl
theorem dk_of {code : ByteArray} {pc n : Nat} {i : Instr} (h : Decoder.instr pc code pc = .ok (i, pc + n)) : decode code pc = .ok (i, n) := by
  have e : decode code pc = (match Decoder.instr pc code pc with | .error x => .error x | .ok (j, s) => .ok (j, s - pc)) := by
    show (do let (j, s) ← Decoder.instr pc code pc; Pure.pure (j, s - pc) : Except DecodeError (Instr × Nat)) = _
    cases Decoder.instr pc code pc <;> rfl
  rw [e, h]
  show Except.ok (i, pc + n - pc) = _
  rw [Nat.add_sub_cancel_left]
theorem dk_2 {code : ByteArray} {pc : Nat} (h : DkAt code pc [2]) : decode code pc = .ok (.iconst (-1), 1) := dk_of ((dk_bind (dk_u1 (h 0 _ rfl))).trans rfl)
theorem dk_3 {code : ByteArray} {pc : Nat} (h : DkAt code pc [3]) : decode code pc = .ok (.iconst 0, 1) := dk_of ((dk_bind (dk_u1 (h 0 _ rfl))).trans rfl)
theorem dk_4 {code : ByteArray} {pc : Nat} (h : DkAt code pc [4]) : decode code pc = .ok (.iconst 1, 1) := dk_of ((dk_bind (dk_u1 (h 0 _ rfl))).trans rfl)
theorem dk_5 {code : ByteArray} {pc : Nat} (h : DkAt code pc [5]) : decode code pc = .ok (.iconst 2, 1) := dk_of ((dk_bind (dk_u1 (h 0 _ rfl))).trans rfl)
theorem dk_6 {code : ByteArray} {pc : Nat} (h : DkAt code pc [6]) : decode code pc = .ok (.iconst 3, 1) := dk_of ((dk_bind (dk_u1 (h 0 _ rfl))).trans rfl)
theorem dk_7 {code : ByteArray} {pc : Nat} (h : DkAt code pc [7]) : decode code pc = .ok (.iconst 4, 1) := dk_of ((dk_bind (dk_u1 (h 0 _ rfl))).trans rfl)
theorem dk_8 {code : ByteArray} {pc : Nat} (h : DkAt code pc [8]) : decode code pc = .ok (.iconst 5, 1) := dk_of ((dk_bind (dk_u1 (h 0 _ rfl))).trans rfl)
theorem dk_9 {code : ByteArray} {pc : Nat} (h : DkAt code pc [9]) : decode code pc = .ok (.lconst 0, 1) := dk_of ((dk_bind (dk_u1 (h 0 _ rfl))).trans rfl)
theorem dk_10 {code : ByteArray} {pc : Nat} (h : DkAt code pc [10]) : decode code pc = .ok (.lconst 1, 1) := dk_of ((dk_bind (dk_u1 (h 0 _ rfl))).trans rfl)
theorem dk_16 {code : ByteArray} {pc : Nat} (a : UInt8) (h : DkAt code pc [16, a]) : decode code pc = .ok (.bipush (Reader.signed 8 a.toNat), 2) := dk_of ((dk_bind (dk_u1 (h 0 _ rfl))).trans ((dk_bind (dk_map (dk_u1 (h 1 _ rfl)))).trans rfl))
theorem dk_17 {code : ByteArray} {pc : Nat} (a b : UInt8) (h : DkAt code pc [17, a, b]) : decode code pc = .ok (.sipush (Reader.signed 16 (a.toNat * 256 + b.toNat)), 3) := dk_of ((dk_bind (dk_u1 (h 0 _ rfl))).trans ((dk_bind (dk_map (dk_u2 (h 1 _ rfl) (h 2 _ rfl)))).trans rfl))
theorem dk_18 {code : ByteArray} {pc : Nat} (a : UInt8) (h : DkAt code pc [18, a]) : decode code pc = .ok (.ldc a.toNat, 2) := dk_of ((dk_bind (dk_u1 (h 0 _ rfl))).trans ((dk_bind (dk_u1 (h 1 _ rfl))).trans rfl))
theorem dk_20 {code : ByteArray} {pc : Nat} (a b : UInt8) (h : DkAt code pc [20, a, b]) : decode code pc = .ok (.ldc2_w (a.toNat * 256 + b.toNat), 3) := dk_of ((dk_bind (dk_u1 (h 0 _ rfl))).trans ((dk_bind (dk_u2 (h 1 _ rfl) (h 2 _ rfl))).trans rfl))
theorem dk_21 {code : ByteArray} {pc : Nat} (a : UInt8) (h : DkAt code pc [21, a]) : decode code pc = .ok (.iload a.toNat, 2) := dk_of ((dk_bind (dk_u1 (h 0 _ rfl))).trans ((dk_bind (dk_u1 (h 1 _ rfl))).trans rfl))
theorem dk_22 {code : ByteArray} {pc : Nat} (a : UInt8) (h : DkAt code pc [22, a]) : decode code pc = .ok (.lload a.toNat, 2) := dk_of ((dk_bind (dk_u1 (h 0 _ rfl))).trans ((dk_bind (dk_u1 (h 1 _ rfl))).trans rfl))
theorem dk_25 {code : ByteArray} {pc : Nat} (a : UInt8) (h : DkAt code pc [25, a]) : decode code pc = .ok (.aload a.toNat, 2) := dk_of ((dk_bind (dk_u1 (h 0 _ rfl))).trans ((dk_bind (dk_u1 (h 1 _ rfl))).trans rfl))
theorem dk_26 {code : ByteArray} {pc : Nat} (h : DkAt code pc [26]) : decode code pc = .ok (.iload_n 0, 1) := dk_of ((dk_bind (dk_u1 (h 0 _ rfl))).trans rfl)
theorem dk_27 {code : ByteArray} {pc : Nat} (h : DkAt code pc [27]) : decode code pc = .ok (.iload_n 1, 1) := dk_of ((dk_bind (dk_u1 (h 0 _ rfl))).trans rfl)
theorem dk_28 {code : ByteArray} {pc : Nat} (h : DkAt code pc [28]) : decode code pc = .ok (.iload_n 2, 1) := dk_of ((dk_bind (dk_u1 (h 0 _ rfl))).trans rfl)
theorem dk_29 {code : ByteArray} {pc : Nat} (h : DkAt code pc [29]) : decode code pc = .ok (.iload_n 3, 1) := dk_of ((dk_bind (dk_u1 (h 0 _ rfl))).trans rfl)
theorem dk_42 {code : ByteArray} {pc : Nat} (h : DkAt code pc [42]) : decode code pc = .ok (.aload_n 0, 1) := dk_of ((dk_bind (dk_u1 (h 0 _ rfl))).trans rfl)
theorem dk_43 {code : ByteArray} {pc : Nat} (h : DkAt code pc [43]) : decode code pc = .ok (.aload_n 1, 1) := dk_of ((dk_bind (dk_u1 (h 0 _ rfl))).trans rfl)
theorem dk_44 {code : ByteArray} {pc : Nat} (h : DkAt code pc [44]) : decode code pc = .ok (.aload_n 2, 1) := dk_of ((dk_bind (dk_u1 (h 0 _ rfl))).trans rfl)
theorem dk_45 {code : ByteArray} {pc : Nat} (h : DkAt code pc [45]) : decode code pc = .ok (.aload_n 3, 1) := dk_of ((dk_bind (dk_u1 (h 0 _ rfl))).trans rfl)
theorem dk_46 {code : ByteArray} {pc : Nat} (h : DkAt code pc [46]) : decode code pc = .ok (.iaload, 1) := dk_of ((dk_bind (dk_u1 (h 0 _ rfl))).trans rfl)
theorem dk_47 {code : ByteArray} {pc : Nat} (h : DkAt code pc [47]) : decode code pc = .ok (.laload, 1) := dk_of ((dk_bind (dk_u1 (h 0 _ rfl))).trans rfl)
theorem dk_51 {code : ByteArray} {pc : Nat} (h : DkAt code pc [51]) : decode code pc = .ok (.baload, 1) := dk_of ((dk_bind (dk_u1 (h 0 _ rfl))).trans rfl)
theorem dk_54 {code : ByteArray} {pc : Nat} (a : UInt8) (h : DkAt code pc [54, a]) : decode code pc = .ok (.istore a.toNat, 2) := dk_of ((dk_bind (dk_u1 (h 0 _ rfl))).trans ((dk_bind (dk_u1 (h 1 _ rfl))).trans rfl))
theorem dk_55 {code : ByteArray} {pc : Nat} (a : UInt8) (h : DkAt code pc [55, a]) : decode code pc = .ok (.lstore a.toNat, 2) := dk_of ((dk_bind (dk_u1 (h 0 _ rfl))).trans ((dk_bind (dk_u1 (h 1 _ rfl))).trans rfl))
theorem dk_58 {code : ByteArray} {pc : Nat} (a : UInt8) (h : DkAt code pc [58, a]) : decode code pc = .ok (.astore a.toNat, 2) := dk_of ((dk_bind (dk_u1 (h 0 _ rfl))).trans ((dk_bind (dk_u1 (h 1 _ rfl))).trans rfl))
theorem dk_60 {code : ByteArray} {pc : Nat} (h : DkAt code pc [60]) : decode code pc = .ok (.istore_n 1, 1) := dk_of ((dk_bind (dk_u1 (h 0 _ rfl))).trans rfl)
theorem dk_61 {code : ByteArray} {pc : Nat} (h : DkAt code pc [61]) : decode code pc = .ok (.istore_n 2, 1) := dk_of ((dk_bind (dk_u1 (h 0 _ rfl))).trans rfl)
theorem dk_62 {code : ByteArray} {pc : Nat} (h : DkAt code pc [62]) : decode code pc = .ok (.istore_n 3, 1) := dk_of ((dk_bind (dk_u1 (h 0 _ rfl))).trans rfl)
theorem dk_75 {code : ByteArray} {pc : Nat} (h : DkAt code pc [75]) : decode code pc = .ok (.astore_n 0, 1) := dk_of ((dk_bind (dk_u1 (h 0 _ rfl))).trans rfl)
theorem dk_76 {code : ByteArray} {pc : Nat} (h : DkAt code pc [76]) : decode code pc = .ok (.astore_n 1, 1) := dk_of ((dk_bind (dk_u1 (h 0 _ rfl))).trans rfl)
theorem dk_77 {code : ByteArray} {pc : Nat} (h : DkAt code pc [77]) : decode code pc = .ok (.astore_n 2, 1) := dk_of ((dk_bind (dk_u1 (h 0 _ rfl))).trans rfl)
theorem dk_78 {code : ByteArray} {pc : Nat} (h : DkAt code pc [78]) : decode code pc = .ok (.astore_n 3, 1) := dk_of ((dk_bind (dk_u1 (h 0 _ rfl))).trans rfl)
theorem dk_79 {code : ByteArray} {pc : Nat} (h : DkAt code pc [79]) : decode code pc = .ok (.iastore, 1) := dk_of ((dk_bind (dk_u1 (h 0 _ rfl))).trans rfl)
theorem dk_80 {code : ByteArray} {pc : Nat} (h : DkAt code pc [80]) : decode code pc = .ok (.lastore, 1) := dk_of ((dk_bind (dk_u1 (h 0 _ rfl))).trans rfl)
theorem dk_84 {code : ByteArray} {pc : Nat} (h : DkAt code pc [84]) : decode code pc = .ok (.bastore, 1) := dk_of ((dk_bind (dk_u1 (h 0 _ rfl))).trans rfl)
theorem dk_89 {code : ByteArray} {pc : Nat} (h : DkAt code pc [89]) : decode code pc = .ok (.dup, 1) := dk_of ((dk_bind (dk_u1 (h 0 _ rfl))).trans rfl)
theorem dk_92 {code : ByteArray} {pc : Nat} (h : DkAt code pc [92]) : decode code pc = .ok (.dup2, 1) := dk_of ((dk_bind (dk_u1 (h 0 _ rfl))).trans rfl)
theorem dk_96 {code : ByteArray} {pc : Nat} (h : DkAt code pc [96]) : decode code pc = .ok (.iadd, 1) := dk_of ((dk_bind (dk_u1 (h 0 _ rfl))).trans rfl)
theorem dk_100 {code : ByteArray} {pc : Nat} (h : DkAt code pc [100]) : decode code pc = .ok (.isub, 1) := dk_of ((dk_bind (dk_u1 (h 0 _ rfl))).trans rfl)
theorem dk_104 {code : ByteArray} {pc : Nat} (h : DkAt code pc [104]) : decode code pc = .ok (.imul, 1) := dk_of ((dk_bind (dk_u1 (h 0 _ rfl))).trans rfl)
theorem dk_108 {code : ByteArray} {pc : Nat} (h : DkAt code pc [108]) : decode code pc = .ok (.idiv, 1) := dk_of ((dk_bind (dk_u1 (h 0 _ rfl))).trans rfl)
theorem dk_112 {code : ByteArray} {pc : Nat} (h : DkAt code pc [112]) : decode code pc = .ok (.irem, 1) := dk_of ((dk_bind (dk_u1 (h 0 _ rfl))).trans rfl)
theorem dk_116 {code : ByteArray} {pc : Nat} (h : DkAt code pc [116]) : decode code pc = .ok (.ineg, 1) := dk_of ((dk_bind (dk_u1 (h 0 _ rfl))).trans rfl)
theorem dk_120 {code : ByteArray} {pc : Nat} (h : DkAt code pc [120]) : decode code pc = .ok (.ishl, 1) := dk_of ((dk_bind (dk_u1 (h 0 _ rfl))).trans rfl)
theorem dk_121 {code : ByteArray} {pc : Nat} (h : DkAt code pc [121]) : decode code pc = .ok (.lshl, 1) := dk_of ((dk_bind (dk_u1 (h 0 _ rfl))).trans rfl)
theorem dk_122 {code : ByteArray} {pc : Nat} (h : DkAt code pc [122]) : decode code pc = .ok (.ishr, 1) := dk_of ((dk_bind (dk_u1 (h 0 _ rfl))).trans rfl)
theorem dk_123 {code : ByteArray} {pc : Nat} (h : DkAt code pc [123]) : decode code pc = .ok (.lshr, 1) := dk_of ((dk_bind (dk_u1 (h 0 _ rfl))).trans rfl)
theorem dk_124 {code : ByteArray} {pc : Nat} (h : DkAt code pc [124]) : decode code pc = .ok (.iushr, 1) := dk_of ((dk_bind (dk_u1 (h 0 _ rfl))).trans rfl)
theorem dk_125 {code : ByteArray} {pc : Nat} (h : DkAt code pc [125]) : decode code pc = .ok (.lushr, 1) := dk_of ((dk_bind (dk_u1 (h 0 _ rfl))).trans rfl)
theorem dk_126 {code : ByteArray} {pc : Nat} (h : DkAt code pc [126]) : decode code pc = .ok (.iand, 1) := dk_of ((dk_bind (dk_u1 (h 0 _ rfl))).trans rfl)
theorem dk_127 {code : ByteArray} {pc : Nat} (h : DkAt code pc [127]) : decode code pc = .ok (.land, 1) := dk_of ((dk_bind (dk_u1 (h 0 _ rfl))).trans rfl)
theorem dk_128 {code : ByteArray} {pc : Nat} (h : DkAt code pc [128]) : decode code pc = .ok (.ior, 1) := dk_of ((dk_bind (dk_u1 (h 0 _ rfl))).trans rfl)
theorem dk_129 {code : ByteArray} {pc : Nat} (h : DkAt code pc [129]) : decode code pc = .ok (.lor, 1) := dk_of ((dk_bind (dk_u1 (h 0 _ rfl))).trans rfl)
theorem dk_130 {code : ByteArray} {pc : Nat} (h : DkAt code pc [130]) : decode code pc = .ok (.ixor, 1) := dk_of ((dk_bind (dk_u1 (h 0 _ rfl))).trans rfl)
theorem dk_131 {code : ByteArray} {pc : Nat} (h : DkAt code pc [131]) : decode code pc = .ok (.lxor, 1) := dk_of ((dk_bind (dk_u1 (h 0 _ rfl))).trans rfl)
theorem dk_132 {code : ByteArray} {pc : Nat} (a b : UInt8) (h : DkAt code pc [132, a, b]) : decode code pc = .ok (.iinc a.toNat (Reader.signed 8 b.toNat), 3) := dk_of ((dk_bind (dk_u1 (h 0 _ rfl))).trans ((dk_bind (dk_u1 (h 1 _ rfl))).trans ((dk_bind (dk_map (dk_u1 (h 2 _ rfl)))).trans rfl)))
theorem dk_133 {code : ByteArray} {pc : Nat} (h : DkAt code pc [133]) : decode code pc = .ok (.i2l, 1) := dk_of ((dk_bind (dk_u1 (h 0 _ rfl))).trans rfl)
theorem dk_136 {code : ByteArray} {pc : Nat} (h : DkAt code pc [136]) : decode code pc = .ok (.l2i, 1) := dk_of ((dk_bind (dk_u1 (h 0 _ rfl))).trans rfl)
theorem dk_145 {code : ByteArray} {pc : Nat} (h : DkAt code pc [145]) : decode code pc = .ok (.i2b, 1) := dk_of ((dk_bind (dk_u1 (h 0 _ rfl))).trans rfl)
theorem dk_153 {code : ByteArray} {pc : Nat} (a b : UInt8) (h : DkAt code pc [153, a, b]) : decode code pc = .ok (.ifCond .eq (Reader.signed 16 (a.toNat * 256 + b.toNat)), 3) := dk_of ((dk_bind (dk_u1 (h 0 _ rfl))).trans ((dk_bind (dk_map (dk_u2 (h 1 _ rfl) (h 2 _ rfl)))).trans rfl))
theorem dk_154 {code : ByteArray} {pc : Nat} (a b : UInt8) (h : DkAt code pc [154, a, b]) : decode code pc = .ok (.ifCond .ne (Reader.signed 16 (a.toNat * 256 + b.toNat)), 3) := dk_of ((dk_bind (dk_u1 (h 0 _ rfl))).trans ((dk_bind (dk_map (dk_u2 (h 1 _ rfl) (h 2 _ rfl)))).trans rfl))
theorem dk_158 {code : ByteArray} {pc : Nat} (a b : UInt8) (h : DkAt code pc [158, a, b]) : decode code pc = .ok (.ifCond .le (Reader.signed 16 (a.toNat * 256 + b.toNat)), 3) := dk_of ((dk_bind (dk_u1 (h 0 _ rfl))).trans ((dk_bind (dk_map (dk_u2 (h 1 _ rfl) (h 2 _ rfl)))).trans rfl))
theorem dk_159 {code : ByteArray} {pc : Nat} (a b : UInt8) (h : DkAt code pc [159, a, b]) : decode code pc = .ok (.if_icmp .eq (Reader.signed 16 (a.toNat * 256 + b.toNat)), 3) := dk_of ((dk_bind (dk_u1 (h 0 _ rfl))).trans ((dk_bind (dk_map (dk_u2 (h 1 _ rfl) (h 2 _ rfl)))).trans rfl))
theorem dk_160 {code : ByteArray} {pc : Nat} (a b : UInt8) (h : DkAt code pc [160, a, b]) : decode code pc = .ok (.if_icmp .ne (Reader.signed 16 (a.toNat * 256 + b.toNat)), 3) := dk_of ((dk_bind (dk_u1 (h 0 _ rfl))).trans ((dk_bind (dk_map (dk_u2 (h 1 _ rfl) (h 2 _ rfl)))).trans rfl))
theorem dk_161 {code : ByteArray} {pc : Nat} (a b : UInt8) (h : DkAt code pc [161, a, b]) : decode code pc = .ok (.if_icmp .lt (Reader.signed 16 (a.toNat * 256 + b.toNat)), 3) := dk_of ((dk_bind (dk_u1 (h 0 _ rfl))).trans ((dk_bind (dk_map (dk_u2 (h 1 _ rfl) (h 2 _ rfl)))).trans rfl))
theorem dk_162 {code : ByteArray} {pc : Nat} (a b : UInt8) (h : DkAt code pc [162, a, b]) : decode code pc = .ok (.if_icmp .ge (Reader.signed 16 (a.toNat * 256 + b.toNat)), 3) := dk_of ((dk_bind (dk_u1 (h 0 _ rfl))).trans ((dk_bind (dk_map (dk_u2 (h 1 _ rfl) (h 2 _ rfl)))).trans rfl))
theorem dk_164 {code : ByteArray} {pc : Nat} (a b : UInt8) (h : DkAt code pc [164, a, b]) : decode code pc = .ok (.if_icmp .le (Reader.signed 16 (a.toNat * 256 + b.toNat)), 3) := dk_of ((dk_bind (dk_u1 (h 0 _ rfl))).trans ((dk_bind (dk_map (dk_u2 (h 1 _ rfl) (h 2 _ rfl)))).trans rfl))
theorem dk_167 {code : ByteArray} {pc : Nat} (a b : UInt8) (h : DkAt code pc [167, a, b]) : decode code pc = .ok (.goto (Reader.signed 16 (a.toNat * 256 + b.toNat)), 3) := dk_of ((dk_bind (dk_u1 (h 0 _ rfl))).trans ((dk_bind (dk_map (dk_u2 (h 1 _ rfl) (h 2 _ rfl)))).trans rfl))
theorem dk_172 {code : ByteArray} {pc : Nat} (h : DkAt code pc [172]) : decode code pc = .ok (.ireturn, 1) := dk_of ((dk_bind (dk_u1 (h 0 _ rfl))).trans rfl)
theorem dk_177 {code : ByteArray} {pc : Nat} (h : DkAt code pc [177]) : decode code pc = .ok (.return_, 1) := dk_of ((dk_bind (dk_u1 (h 0 _ rfl))).trans rfl)
theorem dk_180 {code : ByteArray} {pc : Nat} (a b : UInt8) (h : DkAt code pc [180, a, b]) : decode code pc = .ok (.getfield (a.toNat * 256 + b.toNat), 3) := dk_of ((dk_bind (dk_u1 (h 0 _ rfl))).trans ((dk_bind (dk_u2 (h 1 _ rfl) (h 2 _ rfl))).trans rfl))
theorem dk_181 {code : ByteArray} {pc : Nat} (a b : UInt8) (h : DkAt code pc [181, a, b]) : decode code pc = .ok (.putfield (a.toNat * 256 + b.toNat), 3) := dk_of ((dk_bind (dk_u1 (h 0 _ rfl))).trans ((dk_bind (dk_u2 (h 1 _ rfl) (h 2 _ rfl))).trans rfl))
theorem dk_182 {code : ByteArray} {pc : Nat} (a b : UInt8) (h : DkAt code pc [182, a, b]) : decode code pc = .ok (.invokevirtual (a.toNat * 256 + b.toNat), 3) := dk_of ((dk_bind (dk_u1 (h 0 _ rfl))).trans ((dk_bind (dk_u2 (h 1 _ rfl) (h 2 _ rfl))).trans rfl))
theorem dk_183 {code : ByteArray} {pc : Nat} (a b : UInt8) (h : DkAt code pc [183, a, b]) : decode code pc = .ok (.invokespecial (a.toNat * 256 + b.toNat), 3) := dk_of ((dk_bind (dk_u1 (h 0 _ rfl))).trans ((dk_bind (dk_u2 (h 1 _ rfl) (h 2 _ rfl))).trans rfl))
theorem dk_184 {code : ByteArray} {pc : Nat} (a b : UInt8) (h : DkAt code pc [184, a, b]) : decode code pc = .ok (.invokestatic (a.toNat * 256 + b.toNat), 3) := dk_of ((dk_bind (dk_u1 (h 0 _ rfl))).trans ((dk_bind (dk_u2 (h 1 _ rfl) (h 2 _ rfl))).trans rfl))
theorem dk_187 {code : ByteArray} {pc : Nat} (a b : UInt8) (h : DkAt code pc [187, a, b]) : decode code pc = .ok (.new (a.toNat * 256 + b.toNat), 3) := dk_of ((dk_bind (dk_u1 (h 0 _ rfl))).trans ((dk_bind (dk_u2 (h 1 _ rfl) (h 2 _ rfl))).trans rfl))
theorem dk_188_4 {code : ByteArray} {pc : Nat} (h : DkAt code pc [188, 4]) : decode code pc = .ok (.newarray .boolean, 2) := dk_of ((dk_bind (dk_u1 (h 0 _ rfl))).trans ((dk_bind (dk_u1 (h 1 _ rfl))).trans rfl))
theorem dk_188_8 {code : ByteArray} {pc : Nat} (h : DkAt code pc [188, 8]) : decode code pc = .ok (.newarray .byte, 2) := dk_of ((dk_bind (dk_u1 (h 0 _ rfl))).trans ((dk_bind (dk_u1 (h 1 _ rfl))).trans rfl))
theorem dk_188_10 {code : ByteArray} {pc : Nat} (h : DkAt code pc [188, 10]) : decode code pc = .ok (.newarray .int, 2) := dk_of ((dk_bind (dk_u1 (h 0 _ rfl))).trans ((dk_bind (dk_u1 (h 1 _ rfl))).trans rfl))
theorem dk_188_11 {code : ByteArray} {pc : Nat} (h : DkAt code pc [188, 11]) : decode code pc = .ok (.newarray .long, 2) := dk_of ((dk_bind (dk_u1 (h 0 _ rfl))).trans ((dk_bind (dk_u1 (h 1 _ rfl))).trans rfl))
theorem dk_190 {code : ByteArray} {pc : Nat} (h : DkAt code pc [190]) : decode code pc = .ok (.arraylength, 1) := dk_of ((dk_bind (dk_u1 (h 0 _ rfl))).trans rfl)
end
section
/-! java/lang/Math -/
set_option maxRecDepth 100000
def RJ0 : String := "java/lang/Math"
abbrev cJ0_max : ByteArray := prog_6_method_65_code
def yJ0_max : MethodName := ⟨RJ0, "max", "(II)I"⟩
def dkwJ0_max_0 : List UInt8 := [26, 27, 161, 0, 7, 26, 167, 0, 4, 27, 172]
abbrev dktJ0_max_0 : List UInt8 := dkwJ0_max_0 ++ []
theorem dksJ0_max_0 : cJ0_max.data.toList.drop 0 = dktJ0_max_0 := by decide +kernel
theorem dJ0_max_0 : decode cJ0_max 0 = .ok (.iload_n 0, 1) := dk_26 (dk_at dksJ0_max_0 0 rfl rfl)
theorem dJ0_max_1 : decode cJ0_max 1 = .ok (.iload_n 1, 1) := dk_27 (dk_at dksJ0_max_0 1 rfl rfl)
theorem dJ0_max_2 : decode cJ0_max 2 = .ok (.if_icmp .lt 7, 3) := dk_161 0 7 (dk_at dksJ0_max_0 2 rfl rfl)
theorem dJ0_max_5 : decode cJ0_max 5 = .ok (.iload_n 0, 1) := dk_26 (dk_at dksJ0_max_0 5 rfl rfl)
theorem dJ0_max_6 : decode cJ0_max 6 = .ok (.goto 4, 3) := dk_167 0 4 (dk_at dksJ0_max_0 6 rfl rfl)
theorem dJ0_max_9 : decode cJ0_max 9 = .ok (.iload_n 1, 1) := dk_27 (dk_at dksJ0_max_0 9 rfl rfl)
theorem dJ0_max_10 : decode cJ0_max 10 = .ok (.ireturn, 1) := dk_172 (dk_at dksJ0_max_0 10 rfl rfl)
theorem q5 : (Jvm.Cond.initialized "java/lang/Math") ∈ lw_all := lw_g (lw_at lw_m0 5 rfl) rfl
theorem q127 : (Jvm.Cond.static ({ cls := "java/lang/Math", name := "max", desc := "(II)I" } : Jvm.MethodName)) ∈ lw_all := lw_g (lw_at lw_m0 127 rfl) rfl
theorem q128 : (Jvm.Cond.code ({ cls := "java/lang/Math", name := "max", desc := "(II)I" } : Jvm.MethodName) prog_6_method_65_code (2 : Nat) (Option.some Jvm.ClassFile.FieldType.int)) ∈ lw_all := lw_g (lw_at lw_m0 128 rfl) rfl
/-! java/lang/Object -/
set_option maxRecDepth 100000
def RJ1 : String := "java/lang/Object"
abbrev cJ1_init : ByteArray := object_method_1_code
def yJ1_init : MethodName := ⟨RJ1, "<init>", "()V"⟩
theorem dJ1_init_0 : decode cJ1_init 0 = .ok (.return_, 1) := by decide +kernel
theorem q12 : (Jvm.Cond.instanceMethod ({ cls := "java/lang/Object", name := "<init>", desc := "()V" } : Jvm.MethodName)) ∈ lw_all := lw_g (lw_at lw_m0 12 rfl) rfl
theorem q13 : (Jvm.Cond.code ({ cls := "java/lang/Object", name := "<init>", desc := "()V" } : Jvm.MethodName) object_method_1_code (1 : Nat) (Option.none : Option Jvm.ClassFile.FieldType)) ∈ lw_all := lw_g (lw_at lw_m0 13 rfl) rfl
theorem q27 : (Jvm.Cond.arrayClass Jvm.ClassFile.FieldType.byte) ∈ lw_all := lw_g (lw_at lw_m0 27 rfl) rfl
set_option maxRecDepth 100000
theorem q28 : (Jvm.Cond.arrayClass Jvm.ClassFile.FieldType.long) ∈ lw_all := lw_g (lw_at lw_m0 28 rfl) rfl
theorem q56 : (Jvm.Cond.arrayClass Jvm.ClassFile.FieldType.int) ∈ lw_all := lw_g (lw_at lw_m0 56 rfl) rfl
theorem q57 : (Jvm.Cond.arrayClass Jvm.ClassFile.FieldType.boolean) ∈ lw_all := lw_g (lw_at lw_m0 57 rfl) rfl
/-! Utils -/
set_option maxRecDepth 100000
def RX4 : String := "Utils"
abbrev cX4_fromLongArrayToByte32Array : ByteArray := prog_5_method_2_code
def yX4_fromLongArrayToByte32Array : MethodName := ⟨RX4, "fromLongArrayToByte32Array", "([I[J)V"⟩
def dkwX4_fromLongArrayToByte32Array_1 : List UInt8 := [28, 47, 16, 32, 123, 136, 79, 132, 2, 1, 167, 255, 224, 177]
abbrev dktX4_fromLongArrayToByte32Array_1 : List UInt8 := dkwX4_fromLongArrayToByte32Array_1 ++ []
def dkwX4_fromLongArrayToByte32Array_0 : List UInt8 := [3, 61, 28, 43, 190, 159, 0, 32, 42, 5, 28, 104, 43, 28, 47, 136, 79, 42, 5, 28, 104, 4, 96, 43]
abbrev dktX4_fromLongArrayToByte32Array_0 : List UInt8 := dkwX4_fromLongArrayToByte32Array_0 ++ dktX4_fromLongArrayToByte32Array_1
theorem dksX4_fromLongArrayToByte32Array_0 : cX4_fromLongArrayToByte32Array.data.toList.drop 0 = dktX4_fromLongArrayToByte32Array_0 := by decide +kernel
theorem dksX4_fromLongArrayToByte32Array_1 : cX4_fromLongArrayToByte32Array.data.toList.drop 24 = dktX4_fromLongArrayToByte32Array_1 := dk_seg dksX4_fromLongArrayToByte32Array_0 24 rfl rfl
theorem dX4_fromLongArrayToByte32Array_0 : decode cX4_fromLongArrayToByte32Array 0 = .ok (.iconst 0, 1) := dk_3 (dk_at dksX4_fromLongArrayToByte32Array_0 0 rfl rfl)
theorem dX4_fromLongArrayToByte32Array_1 : decode cX4_fromLongArrayToByte32Array 1 = .ok (.istore_n 2, 1) := dk_61 (dk_at dksX4_fromLongArrayToByte32Array_0 1 rfl rfl)
theorem dX4_fromLongArrayToByte32Array_2 : decode cX4_fromLongArrayToByte32Array 2 = .ok (.iload_n 2, 1) := dk_28 (dk_at dksX4_fromLongArrayToByte32Array_0 2 rfl rfl)
theorem dX4_fromLongArrayToByte32Array_3 : decode cX4_fromLongArrayToByte32Array 3 = .ok (.aload_n 1, 1) := dk_43 (dk_at dksX4_fromLongArrayToByte32Array_0 3 rfl rfl)
theorem dX4_fromLongArrayToByte32Array_4 : decode cX4_fromLongArrayToByte32Array 4 = .ok (.arraylength, 1) := dk_190 (dk_at dksX4_fromLongArrayToByte32Array_0 4 rfl rfl)
theorem dX4_fromLongArrayToByte32Array_5 : decode cX4_fromLongArrayToByte32Array 5 = .ok (.if_icmp .eq 32, 3) := dk_159 0 32 (dk_at dksX4_fromLongArrayToByte32Array_0 5 rfl rfl)
theorem dX4_fromLongArrayToByte32Array_8 : decode cX4_fromLongArrayToByte32Array 8 = .ok (.aload_n 0, 1) := dk_42 (dk_at dksX4_fromLongArrayToByte32Array_0 8 rfl rfl)
theorem dX4_fromLongArrayToByte32Array_9 : decode cX4_fromLongArrayToByte32Array 9 = .ok (.iconst 2, 1) := dk_5 (dk_at dksX4_fromLongArrayToByte32Array_0 9 rfl rfl)
theorem dX4_fromLongArrayToByte32Array_10 : decode cX4_fromLongArrayToByte32Array 10 = .ok (.iload_n 2, 1) := dk_28 (dk_at dksX4_fromLongArrayToByte32Array_0 10 rfl rfl)
theorem dX4_fromLongArrayToByte32Array_11 : decode cX4_fromLongArrayToByte32Array 11 = .ok (.imul, 1) := dk_104 (dk_at dksX4_fromLongArrayToByte32Array_0 11 rfl rfl)
theorem dX4_fromLongArrayToByte32Array_12 : decode cX4_fromLongArrayToByte32Array 12 = .ok (.aload_n 1, 1) := dk_43 (dk_at dksX4_fromLongArrayToByte32Array_0 12 rfl rfl)
theorem dX4_fromLongArrayToByte32Array_13 : decode cX4_fromLongArrayToByte32Array 13 = .ok (.iload_n 2, 1) := dk_28 (dk_at dksX4_fromLongArrayToByte32Array_0 13 rfl rfl)
theorem dX4_fromLongArrayToByte32Array_14 : decode cX4_fromLongArrayToByte32Array 14 = .ok (.laload, 1) := dk_47 (dk_at dksX4_fromLongArrayToByte32Array_0 14 rfl rfl)
theorem dX4_fromLongArrayToByte32Array_15 : decode cX4_fromLongArrayToByte32Array 15 = .ok (.l2i, 1) := dk_136 (dk_at dksX4_fromLongArrayToByte32Array_0 15 rfl rfl)
theorem dX4_fromLongArrayToByte32Array_16 : decode cX4_fromLongArrayToByte32Array 16 = .ok (.iastore, 1) := dk_79 (dk_at dksX4_fromLongArrayToByte32Array_0 16 rfl rfl)
theorem dX4_fromLongArrayToByte32Array_17 : decode cX4_fromLongArrayToByte32Array 17 = .ok (.aload_n 0, 1) := dk_42 (dk_at dksX4_fromLongArrayToByte32Array_0 17 rfl rfl)
theorem dX4_fromLongArrayToByte32Array_18 : decode cX4_fromLongArrayToByte32Array 18 = .ok (.iconst 2, 1) := dk_5 (dk_at dksX4_fromLongArrayToByte32Array_0 18 rfl rfl)
theorem dX4_fromLongArrayToByte32Array_19 : decode cX4_fromLongArrayToByte32Array 19 = .ok (.iload_n 2, 1) := dk_28 (dk_at dksX4_fromLongArrayToByte32Array_0 19 rfl rfl)
theorem dX4_fromLongArrayToByte32Array_20 : decode cX4_fromLongArrayToByte32Array 20 = .ok (.imul, 1) := dk_104 (dk_at dksX4_fromLongArrayToByte32Array_0 20 rfl rfl)
theorem dX4_fromLongArrayToByte32Array_21 : decode cX4_fromLongArrayToByte32Array 21 = .ok (.iconst 1, 1) := dk_4 (dk_at dksX4_fromLongArrayToByte32Array_0 21 rfl rfl)
theorem dX4_fromLongArrayToByte32Array_22 : decode cX4_fromLongArrayToByte32Array 22 = .ok (.iadd, 1) := dk_96 (dk_at dksX4_fromLongArrayToByte32Array_0 22 rfl rfl)
theorem dX4_fromLongArrayToByte32Array_23 : decode cX4_fromLongArrayToByte32Array 23 = .ok (.aload_n 1, 1) := dk_43 (dk_at dksX4_fromLongArrayToByte32Array_0 23 rfl rfl)
theorem dX4_fromLongArrayToByte32Array_24 : decode cX4_fromLongArrayToByte32Array 24 = .ok (.iload_n 2, 1) := dk_28 (dk_at dksX4_fromLongArrayToByte32Array_1 0 rfl rfl)
theorem dX4_fromLongArrayToByte32Array_25 : decode cX4_fromLongArrayToByte32Array 25 = .ok (.laload, 1) := dk_47 (dk_at dksX4_fromLongArrayToByte32Array_1 1 rfl rfl)
theorem dX4_fromLongArrayToByte32Array_26 : decode cX4_fromLongArrayToByte32Array 26 = .ok (.bipush 32, 2) := dk_16 32 (dk_at dksX4_fromLongArrayToByte32Array_1 2 rfl rfl)
theorem dX4_fromLongArrayToByte32Array_28 : decode cX4_fromLongArrayToByte32Array 28 = .ok (.lshr, 1) := dk_123 (dk_at dksX4_fromLongArrayToByte32Array_1 4 rfl rfl)
theorem dX4_fromLongArrayToByte32Array_29 : decode cX4_fromLongArrayToByte32Array 29 = .ok (.l2i, 1) := dk_136 (dk_at dksX4_fromLongArrayToByte32Array_1 5 rfl rfl)
theorem dX4_fromLongArrayToByte32Array_30 : decode cX4_fromLongArrayToByte32Array 30 = .ok (.iastore, 1) := dk_79 (dk_at dksX4_fromLongArrayToByte32Array_1 6 rfl rfl)
theorem dX4_fromLongArrayToByte32Array_31 : decode cX4_fromLongArrayToByte32Array 31 = .ok (.iinc 2 1, 3) := dk_132 2 1 (dk_at dksX4_fromLongArrayToByte32Array_1 7 rfl rfl)
theorem dX4_fromLongArrayToByte32Array_34 : decode cX4_fromLongArrayToByte32Array 34 = .ok (.goto (-32), 3) := dk_167 255 224 (dk_at dksX4_fromLongArrayToByte32Array_1 10 rfl rfl)
theorem dX4_fromLongArrayToByte32Array_37 : decode cX4_fromLongArrayToByte32Array 37 = .ok (.return_, 1) := dk_177 (dk_at dksX4_fromLongArrayToByte32Array_1 13 rfl rfl)
theorem q4 : (Jvm.Cond.initialized "Utils") ∈ lw_all := lw_g (lw_at lw_m0 4 rfl) rfl
theorem q115 : (Jvm.Cond.static ({ cls := "Utils", name := "fromLongArrayToByte32Array", desc := "([I[J)V" } : Jvm.MethodName)) ∈ lw_all := lw_g (lw_at lw_m0 115 rfl) rfl
theorem q116 : (Jvm.Cond.code ({ cls := "Utils", name := "fromLongArrayToByte32Array", desc := "([I[J)V" } : Jvm.MethodName) prog_5_method_2_code (3 : Nat) (Option.none : Option Jvm.ClassFile.FieldType)) ∈ lw_all := lw_g (lw_at lw_m0 116 rfl) rfl
/-! ReedMuller -/
set_option maxRecDepth 100000
def RX3 : String := "ReedMuller"
abbrev cX3_encode : ByteArray := prog_4_method_7_code
def yX3_encode : MethodName := ⟨RX3, "encode", "([J[BII)V"⟩
def dkwX3_encode_4 : List UInt8 := [132, 11, 1, 167, 255, 230, 132, 6, 1, 167, 255, 166, 177]
abbrev dktX3_encode_4 : List UInt8 := dkwX3_encode_4 ++ []
def dkwX3_encode_3 : List UInt8 := [21, 11, 29, 162, 0, 26, 42, 21, 5, 22, 7, 80, 42, 21, 5, 4, 96, 22, 9, 80, 132, 5, 2]
abbrev dktX3_encode_3 : List UInt8 := dkwX3_encode_3 ++ dktX3_encode_4
def dkwX3_encode_2 : List UInt8 := [25, 4, 5, 46, 133, 20, 0, 28, 127, 25, 4, 6, 46, 133, 16, 32, 121, 129, 55, 9, 3, 54, 11]
abbrev dktX3_encode_2 : List UInt8 := dkwX3_encode_2 ++ dktX3_encode_3
def dkwX3_encode_1 : List UInt8 := [184, 0, 24, 25, 4, 3, 46, 133, 20, 0, 28, 127, 25, 4, 4, 46, 133, 16, 32, 121, 129, 55, 7]
abbrev dktX3_encode_1 : List UInt8 := dkwX3_encode_1 ++ dktX3_encode_2
def dkwX3_encode_0 : List UInt8 := [7, 188, 10, 58, 4, 3, 54, 5, 3, 54, 6, 21, 6, 28, 162, 0, 90, 25, 4, 43, 21, 6, 51]
abbrev dktX3_encode_0 : List UInt8 := dkwX3_encode_0 ++ dktX3_encode_1
theorem dksX3_encode_0 : cX3_encode.data.toList.drop 0 = dktX3_encode_0 := by decide +kernel
theorem dksX3_encode_1 : cX3_encode.data.toList.drop 23 = dktX3_encode_1 := dk_seg dksX3_encode_0 23 rfl rfl
theorem dksX3_encode_2 : cX3_encode.data.toList.drop 46 = dktX3_encode_2 := dk_seg dksX3_encode_1 23 rfl rfl
theorem dksX3_encode_3 : cX3_encode.data.toList.drop 69 = dktX3_encode_3 := dk_seg dksX3_encode_2 23 rfl rfl
theorem dksX3_encode_4 : cX3_encode.data.toList.drop 92 = dktX3_encode_4 := dk_seg dksX3_encode_3 23 rfl rfl
theorem dX3_encode_0 : decode cX3_encode 0 = .ok (.iconst 4, 1) := dk_7 (dk_at dksX3_encode_0 0 rfl rfl)
theorem dX3_encode_1 : decode cX3_encode 1 = .ok (.newarray .int, 2) := dk_188_10 (dk_at dksX3_encode_0 1 rfl rfl)
theorem dX3_encode_3 : decode cX3_encode 3 = .ok (.astore 4, 2) := dk_58 4 (dk_at dksX3_encode_0 3 rfl rfl)
theorem dX3_encode_5 : decode cX3_encode 5 = .ok (.iconst 0, 1) := dk_3 (dk_at dksX3_encode_0 5 rfl rfl)
theorem dX3_encode_6 : decode cX3_encode 6 = .ok (.istore 5, 2) := dk_54 5 (dk_at dksX3_encode_0 6 rfl rfl)
theorem dX3_encode_8 : decode cX3_encode 8 = .ok (.iconst 0, 1) := dk_3 (dk_at dksX3_encode_0 8 rfl rfl)
theorem dX3_encode_9 : decode cX3_encode 9 = .ok (.istore 6, 2) := dk_54 6 (dk_at dksX3_encode_0 9 rfl rfl)
theorem dX3_encode_11 : decode cX3_encode 11 = .ok (.iload 6, 2) := dk_21 6 (dk_at dksX3_encode_0 11 rfl rfl)
theorem dX3_encode_13 : decode cX3_encode 13 = .ok (.iload_n 2, 1) := dk_28 (dk_at dksX3_encode_0 13 rfl rfl)
theorem dX3_encode_14 : decode cX3_encode 14 = .ok (.if_icmp .ge 90, 3) := dk_162 0 90 (dk_at dksX3_encode_0 14 rfl rfl)
theorem dX3_encode_17 : decode cX3_encode 17 = .ok (.aload 4, 2) := dk_25 4 (dk_at dksX3_encode_0 17 rfl rfl)
theorem dX3_encode_19 : decode cX3_encode 19 = .ok (.aload_n 1, 1) := dk_43 (dk_at dksX3_encode_0 19 rfl rfl)
theorem dX3_encode_20 : decode cX3_encode 20 = .ok (.iload 6, 2) := dk_21 6 (dk_at dksX3_encode_0 20 rfl rfl)
theorem dX3_encode_22 : decode cX3_encode 22 = .ok (.baload, 1) := dk_51 (dk_at dksX3_encode_0 22 rfl rfl)
theorem dX3_encode_23 : decode cX3_encode 23 = .ok (.invokestatic 24, 3) := dk_184 0 24 (dk_at dksX3_encode_1 0 rfl rfl)
theorem dX3_encode_26 : decode cX3_encode 26 = .ok (.aload 4, 2) := dk_25 4 (dk_at dksX3_encode_1 3 rfl rfl)
theorem dX3_encode_28 : decode cX3_encode 28 = .ok (.iconst 0, 1) := dk_3 (dk_at dksX3_encode_1 5 rfl rfl)
theorem dX3_encode_29 : decode cX3_encode 29 = .ok (.iaload, 1) := dk_46 (dk_at dksX3_encode_1 6 rfl rfl)
theorem dX3_encode_30 : decode cX3_encode 30 = .ok (.i2l, 1) := dk_133 (dk_at dksX3_encode_1 7 rfl rfl)
theorem dX3_encode_31 : decode cX3_encode 31 = .ok (.ldc2_w 28, 3) := dk_20 0 28 (dk_at dksX3_encode_1 8 rfl rfl)
theorem dX3_encode_34 : decode cX3_encode 34 = .ok (.land, 1) := dk_127 (dk_at dksX3_encode_1 11 rfl rfl)
theorem dX3_encode_35 : decode cX3_encode 35 = .ok (.aload 4, 2) := dk_25 4 (dk_at dksX3_encode_1 12 rfl rfl)
theorem dX3_encode_37 : decode cX3_encode 37 = .ok (.iconst 1, 1) := dk_4 (dk_at dksX3_encode_1 14 rfl rfl)
theorem dX3_encode_38 : decode cX3_encode 38 = .ok (.iaload, 1) := dk_46 (dk_at dksX3_encode_1 15 rfl rfl)
theorem dX3_encode_39 : decode cX3_encode 39 = .ok (.i2l, 1) := dk_133 (dk_at dksX3_encode_1 16 rfl rfl)
theorem dX3_encode_40 : decode cX3_encode 40 = .ok (.bipush 32, 2) := dk_16 32 (dk_at dksX3_encode_1 17 rfl rfl)
theorem dX3_encode_42 : decode cX3_encode 42 = .ok (.lshl, 1) := dk_121 (dk_at dksX3_encode_1 19 rfl rfl)
theorem dX3_encode_43 : decode cX3_encode 43 = .ok (.lor, 1) := dk_129 (dk_at dksX3_encode_1 20 rfl rfl)
theorem dX3_encode_44 : decode cX3_encode 44 = .ok (.lstore 7, 2) := dk_55 7 (dk_at dksX3_encode_1 21 rfl rfl)
theorem dX3_encode_46 : decode cX3_encode 46 = .ok (.aload 4, 2) := dk_25 4 (dk_at dksX3_encode_2 0 rfl rfl)
theorem dX3_encode_48 : decode cX3_encode 48 = .ok (.iconst 2, 1) := dk_5 (dk_at dksX3_encode_2 2 rfl rfl)
theorem dX3_encode_49 : decode cX3_encode 49 = .ok (.iaload, 1) := dk_46 (dk_at dksX3_encode_2 3 rfl rfl)
theorem dX3_encode_50 : decode cX3_encode 50 = .ok (.i2l, 1) := dk_133 (dk_at dksX3_encode_2 4 rfl rfl)
theorem dX3_encode_51 : decode cX3_encode 51 = .ok (.ldc2_w 28, 3) := dk_20 0 28 (dk_at dksX3_encode_2 5 rfl rfl)
theorem dX3_encode_54 : decode cX3_encode 54 = .ok (.land, 1) := dk_127 (dk_at dksX3_encode_2 8 rfl rfl)
theorem dX3_encode_55 : decode cX3_encode 55 = .ok (.aload 4, 2) := dk_25 4 (dk_at dksX3_encode_2 9 rfl rfl)
theorem dX3_encode_57 : decode cX3_encode 57 = .ok (.iconst 3, 1) := dk_6 (dk_at dksX3_encode_2 11 rfl rfl)
theorem dX3_encode_58 : decode cX3_encode 58 = .ok (.iaload, 1) := dk_46 (dk_at dksX3_encode_2 12 rfl rfl)
theorem dX3_encode_59 : decode cX3_encode 59 = .ok (.i2l, 1) := dk_133 (dk_at dksX3_encode_2 13 rfl rfl)
theorem dX3_encode_60 : decode cX3_encode 60 = .ok (.bipush 32, 2) := dk_16 32 (dk_at dksX3_encode_2 14 rfl rfl)
theorem dX3_encode_62 : decode cX3_encode 62 = .ok (.lshl, 1) := dk_121 (dk_at dksX3_encode_2 16 rfl rfl)
theorem dX3_encode_63 : decode cX3_encode 63 = .ok (.lor, 1) := dk_129 (dk_at dksX3_encode_2 17 rfl rfl)
theorem dX3_encode_64 : decode cX3_encode 64 = .ok (.lstore 9, 2) := dk_55 9 (dk_at dksX3_encode_2 18 rfl rfl)
theorem dX3_encode_66 : decode cX3_encode 66 = .ok (.iconst 0, 1) := dk_3 (dk_at dksX3_encode_2 20 rfl rfl)
theorem dX3_encode_67 : decode cX3_encode 67 = .ok (.istore 11, 2) := dk_54 11 (dk_at dksX3_encode_2 21 rfl rfl)
theorem dX3_encode_69 : decode cX3_encode 69 = .ok (.iload 11, 2) := dk_21 11 (dk_at dksX3_encode_3 0 rfl rfl)
theorem dX3_encode_71 : decode cX3_encode 71 = .ok (.iload_n 3, 1) := dk_29 (dk_at dksX3_encode_3 2 rfl rfl)
theorem dX3_encode_72 : decode cX3_encode 72 = .ok (.if_icmp .ge 26, 3) := dk_162 0 26 (dk_at dksX3_encode_3 3 rfl rfl)
theorem dX3_encode_75 : decode cX3_encode 75 = .ok (.aload_n 0, 1) := dk_42 (dk_at dksX3_encode_3 6 rfl rfl)
theorem dX3_encode_76 : decode cX3_encode 76 = .ok (.iload 5, 2) := dk_21 5 (dk_at dksX3_encode_3 7 rfl rfl)
theorem dX3_encode_78 : decode cX3_encode 78 = .ok (.lload 7, 2) := dk_22 7 (dk_at dksX3_encode_3 9 rfl rfl)
theorem dX3_encode_80 : decode cX3_encode 80 = .ok (.lastore, 1) := dk_80 (dk_at dksX3_encode_3 11 rfl rfl)
theorem dX3_encode_81 : decode cX3_encode 81 = .ok (.aload_n 0, 1) := dk_42 (dk_at dksX3_encode_3 12 rfl rfl)
theorem dX3_encode_82 : decode cX3_encode 82 = .ok (.iload 5, 2) := dk_21 5 (dk_at dksX3_encode_3 13 rfl rfl)
theorem dX3_encode_84 : decode cX3_encode 84 = .ok (.iconst 1, 1) := dk_4 (dk_at dksX3_encode_3 15 rfl rfl)
theorem dX3_encode_85 : decode cX3_encode 85 = .ok (.iadd, 1) := dk_96 (dk_at dksX3_encode_3 16 rfl rfl)
theorem dX3_encode_86 : decode cX3_encode 86 = .ok (.lload 9, 2) := dk_22 9 (dk_at dksX3_encode_3 17 rfl rfl)
theorem dX3_encode_88 : decode cX3_encode 88 = .ok (.lastore, 1) := dk_80 (dk_at dksX3_encode_3 19 rfl rfl)
theorem dX3_encode_89 : decode cX3_encode 89 = .ok (.iinc 5 2, 3) := dk_132 5 2 (dk_at dksX3_encode_3 20 rfl rfl)
theorem dX3_encode_92 : decode cX3_encode 92 = .ok (.iinc 11 1, 3) := dk_132 11 1 (dk_at dksX3_encode_4 0 rfl rfl)
theorem dX3_encode_95 : decode cX3_encode 95 = .ok (.goto (-26), 3) := dk_167 255 230 (dk_at dksX3_encode_4 3 rfl rfl)
theorem dX3_encode_98 : decode cX3_encode 98 = .ok (.iinc 6 1, 3) := dk_132 6 1 (dk_at dksX3_encode_4 6 rfl rfl)
theorem dX3_encode_101 : decode cX3_encode 101 = .ok (.goto (-90), 3) := dk_167 255 166 (dk_at dksX3_encode_4 9 rfl rfl)
theorem dX3_encode_104 : decode cX3_encode 104 = .ok (.return_, 1) := dk_177 (dk_at dksX3_encode_4 12 rfl rfl)
abbrev cX3_encodeSub : ByteArray := prog_4_method_2_code
def yX3_encodeSub : MethodName := ⟨RX3, "encodeSub", "([II)V"⟩
def dkwX3_encodeSub_4 : List UInt8 := [6, 28, 79, 28, 27, 8, 122, 184, 0, 7, 130, 61, 42, 5, 28, 79, 177]
abbrev dktX3_encodeSub_4 : List UInt8 := dkwX3_encodeSub_4 ++ []
def dkwX3_encodeSub_3 : List UInt8 := [28, 27, 8, 122, 184, 0, 7, 130, 61, 42, 4, 28, 79, 28, 27, 16, 6, 122, 184, 0, 7, 130, 61, 42]
abbrev dktX3_encodeSub_3 : List UInt8 := dkwX3_encodeSub_3 ++ dktX3_encodeSub_4
def dkwX3_encodeSub_2 : List UInt8 := [184, 0, 7, 18, 16, 126, 130, 61, 28, 27, 7, 122, 184, 0, 7, 18, 17, 126, 130, 61, 42, 3, 28, 79]
abbrev dktX3_encodeSub_2 : List UInt8 := dkwX3_encodeSub_2 ++ dktX3_encodeSub_3
def dkwX3_encodeSub_1 : List UInt8 := [184, 0, 7, 18, 14, 126, 130, 61, 28, 27, 5, 122, 184, 0, 7, 18, 15, 126, 130, 61, 28, 27, 6, 122]
abbrev dktX3_encodeSub_1 : List UInt8 := dkwX3_encodeSub_1 ++ dktX3_encodeSub_2
def dkwX3_encodeSub_0 : List UInt8 := [27, 16, 7, 122, 184, 0, 7, 61, 28, 27, 184, 0, 7, 18, 13, 126, 130, 61, 28, 27, 4, 122]
abbrev dktX3_encodeSub_0 : List UInt8 := dkwX3_encodeSub_0 ++ dktX3_encodeSub_1
theorem dksX3_encodeSub_0 : cX3_encodeSub.data.toList.drop 0 = dktX3_encodeSub_0 := by decide +kernel
theorem dksX3_encodeSub_1 : cX3_encodeSub.data.toList.drop 22 = dktX3_encodeSub_1 := dk_seg dksX3_encodeSub_0 22 rfl rfl
theorem dksX3_encodeSub_2 : cX3_encodeSub.data.toList.drop 46 = dktX3_encodeSub_2 := dk_seg dksX3_encodeSub_1 24 rfl rfl
theorem dksX3_encodeSub_3 : cX3_encodeSub.data.toList.drop 70 = dktX3_encodeSub_3 := dk_seg dksX3_encodeSub_2 24 rfl rfl
theorem dksX3_encodeSub_4 : cX3_encodeSub.data.toList.drop 94 = dktX3_encodeSub_4 := dk_seg dksX3_encodeSub_3 24 rfl rfl
theorem dX3_encodeSub_0 : decode cX3_encodeSub 0 = .ok (.iload_n 1, 1) := dk_27 (dk_at dksX3_encodeSub_0 0 rfl rfl)
theorem dX3_encodeSub_1 : decode cX3_encodeSub 1 = .ok (.bipush 7, 2) := dk_16 7 (dk_at dksX3_encodeSub_0 1 rfl rfl)
theorem dX3_encodeSub_3 : decode cX3_encodeSub 3 = .ok (.ishr, 1) := dk_122 (dk_at dksX3_encodeSub_0 3 rfl rfl)
theorem dX3_encodeSub_4 : decode cX3_encodeSub 4 = .ok (.invokestatic 7, 3) := dk_184 0 7 (dk_at dksX3_encodeSub_0 4 rfl rfl)
theorem dX3_encodeSub_7 : decode cX3_encodeSub 7 = .ok (.istore_n 2, 1) := dk_61 (dk_at dksX3_encodeSub_0 7 rfl rfl)
theorem dX3_encodeSub_8 : decode cX3_encodeSub 8 = .ok (.iload_n 2, 1) := dk_28 (dk_at dksX3_encodeSub_0 8 rfl rfl)
theorem dX3_encodeSub_9 : decode cX3_encodeSub 9 = .ok (.iload_n 1, 1) := dk_27 (dk_at dksX3_encodeSub_0 9 rfl rfl)
theorem dX3_encodeSub_10 : decode cX3_encodeSub 10 = .ok (.invokestatic 7, 3) := dk_184 0 7 (dk_at dksX3_encodeSub_0 10 rfl rfl)
theorem dX3_encodeSub_13 : decode cX3_encodeSub 13 = .ok (.ldc 13, 2) := dk_18 13 (dk_at dksX3_encodeSub_0 13 rfl rfl)
theorem dX3_encodeSub_15 : decode cX3_encodeSub 15 = .ok (.iand, 1) := dk_126 (dk_at dksX3_encodeSub_0 15 rfl rfl)
theorem dX3_encodeSub_16 : decode cX3_encodeSub 16 = .ok (.ixor, 1) := dk_130 (dk_at dksX3_encodeSub_0 16 rfl rfl)
theorem dX3_encodeSub_17 : decode cX3_encodeSub 17 = .ok (.istore_n 2, 1) := dk_61 (dk_at dksX3_encodeSub_0 17 rfl rfl)
theorem dX3_encodeSub_18 : decode cX3_encodeSub 18 = .ok (.iload_n 2, 1) := dk_28 (dk_at dksX3_encodeSub_0 18 rfl rfl)
theorem dX3_encodeSub_19 : decode cX3_encodeSub 19 = .ok (.iload_n 1, 1) := dk_27 (dk_at dksX3_encodeSub_0 19 rfl rfl)
theorem dX3_encodeSub_20 : decode cX3_encodeSub 20 = .ok (.iconst 1, 1) := dk_4 (dk_at dksX3_encodeSub_0 20 rfl rfl)
theorem dX3_encodeSub_21 : decode cX3_encodeSub 21 = .ok (.ishr, 1) := dk_122 (dk_at dksX3_encodeSub_0 21 rfl rfl)
theorem dX3_encodeSub_22 : decode cX3_encodeSub 22 = .ok (.invokestatic 7, 3) := dk_184 0 7 (dk_at dksX3_encodeSub_1 0 rfl rfl)
theorem dX3_encodeSub_25 : decode cX3_encodeSub 25 = .ok (.ldc 14, 2) := dk_18 14 (dk_at dksX3_encodeSub_1 3 rfl rfl)
theorem dX3_encodeSub_27 : decode cX3_encodeSub 27 = .ok (.iand, 1) := dk_126 (dk_at dksX3_encodeSub_1 5 rfl rfl)
theorem dX3_encodeSub_28 : decode cX3_encodeSub 28 = .ok (.ixor, 1) := dk_130 (dk_at dksX3_encodeSub_1 6 rfl rfl)
theorem dX3_encodeSub_29 : decode cX3_encodeSub 29 = .ok (.istore_n 2, 1) := dk_61 (dk_at dksX3_encodeSub_1 7 rfl rfl)
theorem dX3_encodeSub_30 : decode cX3_encodeSub 30 = .ok (.iload_n 2, 1) := dk_28 (dk_at dksX3_encodeSub_1 8 rfl rfl)
theorem dX3_encodeSub_31 : decode cX3_encodeSub 31 = .ok (.iload_n 1, 1) := dk_27 (dk_at dksX3_encodeSub_1 9 rfl rfl)
theorem dX3_encodeSub_32 : decode cX3_encodeSub 32 = .ok (.iconst 2, 1) := dk_5 (dk_at dksX3_encodeSub_1 10 rfl rfl)
theorem dX3_encodeSub_33 : decode cX3_encodeSub 33 = .ok (.ishr, 1) := dk_122 (dk_at dksX3_encodeSub_1 11 rfl rfl)
theorem dX3_encodeSub_34 : decode cX3_encodeSub 34 = .ok (.invokestatic 7, 3) := dk_184 0 7 (dk_at dksX3_encodeSub_1 12 rfl rfl)
theorem dX3_encodeSub_37 : decode cX3_encodeSub 37 = .ok (.ldc 15, 2) := dk_18 15 (dk_at dksX3_encodeSub_1 15 rfl rfl)
theorem dX3_encodeSub_39 : decode cX3_encodeSub 39 = .ok (.iand, 1) := dk_126 (dk_at dksX3_encodeSub_1 17 rfl rfl)
theorem dX3_encodeSub_40 : decode cX3_encodeSub 40 = .ok (.ixor, 1) := dk_130 (dk_at dksX3_encodeSub_1 18 rfl rfl)
theorem dX3_encodeSub_41 : decode cX3_encodeSub 41 = .ok (.istore_n 2, 1) := dk_61 (dk_at dksX3_encodeSub_1 19 rfl rfl)
theorem dX3_encodeSub_42 : decode cX3_encodeSub 42 = .ok (.iload_n 2, 1) := dk_28 (dk_at dksX3_encodeSub_1 20 rfl rfl)
theorem dX3_encodeSub_43 : decode cX3_encodeSub 43 = .ok (.iload_n 1, 1) := dk_27 (dk_at dksX3_encodeSub_1 21 rfl rfl)
theorem dX3_encodeSub_44 : decode cX3_encodeSub 44 = .ok (.iconst 3, 1) := dk_6 (dk_at dksX3_encodeSub_1 22 rfl rfl)
theorem dX3_encodeSub_45 : decode cX3_encodeSub 45 = .ok (.ishr, 1) := dk_122 (dk_at dksX3_encodeSub_1 23 rfl rfl)
theorem dX3_encodeSub_46 : decode cX3_encodeSub 46 = .ok (.invokestatic 7, 3) := dk_184 0 7 (dk_at dksX3_encodeSub_2 0 rfl rfl)
theorem dX3_encodeSub_49 : decode cX3_encodeSub 49 = .ok (.ldc 16, 2) := dk_18 16 (dk_at dksX3_encodeSub_2 3 rfl rfl)
theorem dX3_encodeSub_51 : decode cX3_encodeSub 51 = .ok (.iand, 1) := dk_126 (dk_at dksX3_encodeSub_2 5 rfl rfl)
theorem dX3_encodeSub_52 : decode cX3_encodeSub 52 = .ok (.ixor, 1) := dk_130 (dk_at dksX3_encodeSub_2 6 rfl rfl)
theorem dX3_encodeSub_53 : decode cX3_encodeSub 53 = .ok (.istore_n 2, 1) := dk_61 (dk_at dksX3_encodeSub_2 7 rfl rfl)
theorem dX3_encodeSub_54 : decode cX3_encodeSub 54 = .ok (.iload_n 2, 1) := dk_28 (dk_at dksX3_encodeSub_2 8 rfl rfl)
theorem dX3_encodeSub_55 : decode cX3_encodeSub 55 = .ok (.iload_n 1, 1) := dk_27 (dk_at dksX3_encodeSub_2 9 rfl rfl)
theorem dX3_encodeSub_56 : decode cX3_encodeSub 56 = .ok (.iconst 4, 1) := dk_7 (dk_at dksX3_encodeSub_2 10 rfl rfl)
theorem dX3_encodeSub_57 : decode cX3_encodeSub 57 = .ok (.ishr, 1) := dk_122 (dk_at dksX3_encodeSub_2 11 rfl rfl)
theorem dX3_encodeSub_58 : decode cX3_encodeSub 58 = .ok (.invokestatic 7, 3) := dk_184 0 7 (dk_at dksX3_encodeSub_2 12 rfl rfl)
theorem dX3_encodeSub_61 : decode cX3_encodeSub 61 = .ok (.ldc 17, 2) := dk_18 17 (dk_at dksX3_encodeSub_2 15 rfl rfl)
theorem dX3_encodeSub_63 : decode cX3_encodeSub 63 = .ok (.iand, 1) := dk_126 (dk_at dksX3_encodeSub_2 17 rfl rfl)
theorem dX3_encodeSub_64 : decode cX3_encodeSub 64 = .ok (.ixor, 1) := dk_130 (dk_at dksX3_encodeSub_2 18 rfl rfl)
theorem dX3_encodeSub_65 : decode cX3_encodeSub 65 = .ok (.istore_n 2, 1) := dk_61 (dk_at dksX3_encodeSub_2 19 rfl rfl)
theorem dX3_encodeSub_66 : decode cX3_encodeSub 66 = .ok (.aload_n 0, 1) := dk_42 (dk_at dksX3_encodeSub_2 20 rfl rfl)
theorem dX3_encodeSub_67 : decode cX3_encodeSub 67 = .ok (.iconst 0, 1) := dk_3 (dk_at dksX3_encodeSub_2 21 rfl rfl)
theorem dX3_encodeSub_68 : decode cX3_encodeSub 68 = .ok (.iload_n 2, 1) := dk_28 (dk_at dksX3_encodeSub_2 22 rfl rfl)
theorem dX3_encodeSub_69 : decode cX3_encodeSub 69 = .ok (.iastore, 1) := dk_79 (dk_at dksX3_encodeSub_2 23 rfl rfl)
theorem dX3_encodeSub_70 : decode cX3_encodeSub 70 = .ok (.iload_n 2, 1) := dk_28 (dk_at dksX3_encodeSub_3 0 rfl rfl)
theorem dX3_encodeSub_71 : decode cX3_encodeSub 71 = .ok (.iload_n 1, 1) := dk_27 (dk_at dksX3_encodeSub_3 1 rfl rfl)
theorem dX3_encodeSub_72 : decode cX3_encodeSub 72 = .ok (.iconst 5, 1) := dk_8 (dk_at dksX3_encodeSub_3 2 rfl rfl)
theorem dX3_encodeSub_73 : decode cX3_encodeSub 73 = .ok (.ishr, 1) := dk_122 (dk_at dksX3_encodeSub_3 3 rfl rfl)
theorem dX3_encodeSub_74 : decode cX3_encodeSub 74 = .ok (.invokestatic 7, 3) := dk_184 0 7 (dk_at dksX3_encodeSub_3 4 rfl rfl)
theorem dX3_encodeSub_77 : decode cX3_encodeSub 77 = .ok (.ixor, 1) := dk_130 (dk_at dksX3_encodeSub_3 7 rfl rfl)
theorem dX3_encodeSub_78 : decode cX3_encodeSub 78 = .ok (.istore_n 2, 1) := dk_61 (dk_at dksX3_encodeSub_3 8 rfl rfl)
theorem dX3_encodeSub_79 : decode cX3_encodeSub 79 = .ok (.aload_n 0, 1) := dk_42 (dk_at dksX3_encodeSub_3 9 rfl rfl)
theorem dX3_encodeSub_80 : decode cX3_encodeSub 80 = .ok (.iconst 1, 1) := dk_4 (dk_at dksX3_encodeSub_3 10 rfl rfl)
theorem dX3_encodeSub_81 : decode cX3_encodeSub 81 = .ok (.iload_n 2, 1) := dk_28 (dk_at dksX3_encodeSub_3 11 rfl rfl)
theorem dX3_encodeSub_82 : decode cX3_encodeSub 82 = .ok (.iastore, 1) := dk_79 (dk_at dksX3_encodeSub_3 12 rfl rfl)
theorem dX3_encodeSub_83 : decode cX3_encodeSub 83 = .ok (.iload_n 2, 1) := dk_28 (dk_at dksX3_encodeSub_3 13 rfl rfl)
theorem dX3_encodeSub_84 : decode cX3_encodeSub 84 = .ok (.iload_n 1, 1) := dk_27 (dk_at dksX3_encodeSub_3 14 rfl rfl)
theorem dX3_encodeSub_85 : decode cX3_encodeSub 85 = .ok (.bipush 6, 2) := dk_16 6 (dk_at dksX3_encodeSub_3 15 rfl rfl)
theorem dX3_encodeSub_87 : decode cX3_encodeSub 87 = .ok (.ishr, 1) := dk_122 (dk_at dksX3_encodeSub_3 17 rfl rfl)
theorem dX3_encodeSub_88 : decode cX3_encodeSub 88 = .ok (.invokestatic 7, 3) := dk_184 0 7 (dk_at dksX3_encodeSub_3 18 rfl rfl)
theorem dX3_encodeSub_91 : decode cX3_encodeSub 91 = .ok (.ixor, 1) := dk_130 (dk_at dksX3_encodeSub_3 21 rfl rfl)
theorem dX3_encodeSub_92 : decode cX3_encodeSub 92 = .ok (.istore_n 2, 1) := dk_61 (dk_at dksX3_encodeSub_3 22 rfl rfl)
theorem dX3_encodeSub_93 : decode cX3_encodeSub 93 = .ok (.aload_n 0, 1) := dk_42 (dk_at dksX3_encodeSub_3 23 rfl rfl)
theorem dX3_encodeSub_94 : decode cX3_encodeSub 94 = .ok (.iconst 3, 1) := dk_6 (dk_at dksX3_encodeSub_4 0 rfl rfl)
theorem dX3_encodeSub_95 : decode cX3_encodeSub 95 = .ok (.iload_n 2, 1) := dk_28 (dk_at dksX3_encodeSub_4 1 rfl rfl)
theorem dX3_encodeSub_96 : decode cX3_encodeSub 96 = .ok (.iastore, 1) := dk_79 (dk_at dksX3_encodeSub_4 2 rfl rfl)
theorem dX3_encodeSub_97 : decode cX3_encodeSub 97 = .ok (.iload_n 2, 1) := dk_28 (dk_at dksX3_encodeSub_4 3 rfl rfl)
theorem dX3_encodeSub_98 : decode cX3_encodeSub 98 = .ok (.iload_n 1, 1) := dk_27 (dk_at dksX3_encodeSub_4 4 rfl rfl)
theorem dX3_encodeSub_99 : decode cX3_encodeSub 99 = .ok (.iconst 5, 1) := dk_8 (dk_at dksX3_encodeSub_4 5 rfl rfl)
theorem dX3_encodeSub_100 : decode cX3_encodeSub 100 = .ok (.ishr, 1) := dk_122 (dk_at dksX3_encodeSub_4 6 rfl rfl)
theorem dX3_encodeSub_101 : decode cX3_encodeSub 101 = .ok (.invokestatic 7, 3) := dk_184 0 7 (dk_at dksX3_encodeSub_4 7 rfl rfl)
theorem dX3_encodeSub_104 : decode cX3_encodeSub 104 = .ok (.ixor, 1) := dk_130 (dk_at dksX3_encodeSub_4 10 rfl rfl)
theorem dX3_encodeSub_105 : decode cX3_encodeSub 105 = .ok (.istore_n 2, 1) := dk_61 (dk_at dksX3_encodeSub_4 11 rfl rfl)
theorem dX3_encodeSub_106 : decode cX3_encodeSub 106 = .ok (.aload_n 0, 1) := dk_42 (dk_at dksX3_encodeSub_4 12 rfl rfl)
theorem dX3_encodeSub_107 : decode cX3_encodeSub 107 = .ok (.iconst 2, 1) := dk_5 (dk_at dksX3_encodeSub_4 13 rfl rfl)
theorem dX3_encodeSub_108 : decode cX3_encodeSub 108 = .ok (.iload_n 2, 1) := dk_28 (dk_at dksX3_encodeSub_4 14 rfl rfl)
theorem dX3_encodeSub_109 : decode cX3_encodeSub 109 = .ok (.iastore, 1) := dk_79 (dk_at dksX3_encodeSub_4 15 rfl rfl)
theorem dX3_encodeSub_110 : decode cX3_encodeSub 110 = .ok (.return_, 1) := dk_177 (dk_at dksX3_encodeSub_4 16 rfl rfl)
abbrev cX3_Bit0Mask : ByteArray := prog_4_method_6_code
def yX3_Bit0Mask : MethodName := ⟨RX3, "Bit0Mask", "(I)I"⟩
def dkwX3_Bit0Mask_0 : List UInt8 := [26, 4, 126, 116, 172]
abbrev dktX3_Bit0Mask_0 : List UInt8 := dkwX3_Bit0Mask_0 ++ []
theorem dksX3_Bit0Mask_0 : cX3_Bit0Mask.data.toList.drop 0 = dktX3_Bit0Mask_0 := by decide +kernel
theorem dX3_Bit0Mask_0 : decode cX3_Bit0Mask 0 = .ok (.iload_n 0, 1) := dk_26 (dk_at dksX3_Bit0Mask_0 0 rfl rfl)
theorem dX3_Bit0Mask_1 : decode cX3_Bit0Mask 1 = .ok (.iconst 1, 1) := dk_4 (dk_at dksX3_Bit0Mask_0 1 rfl rfl)
theorem dX3_Bit0Mask_2 : decode cX3_Bit0Mask 2 = .ok (.iand, 1) := dk_126 (dk_at dksX3_Bit0Mask_0 2 rfl rfl)
theorem dX3_Bit0Mask_3 : decode cX3_Bit0Mask 3 = .ok (.ineg, 1) := dk_116 (dk_at dksX3_Bit0Mask_0 3 rfl rfl)
theorem dX3_Bit0Mask_4 : decode cX3_Bit0Mask 4 = .ok (.ireturn, 1) := dk_172 (dk_at dksX3_Bit0Mask_0 4 rfl rfl)
abbrev cX3_decode : ByteArray := prog_4_method_8_code
def yX3_decode : MethodName := ⟨RX3, "decode", "([B[JII)V"⟩
def dkwX3_decode_3 : List UInt8 := [25, 6, 184, 0, 44, 145, 84, 132, 7, 1, 167, 255, 207, 177]
abbrev dktX3_decode_3 : List UInt8 := dkwX3_decode_3 ++ []
def dkwX3_decode_2 : List UInt8 := [184, 0, 36, 25, 5, 25, 6, 184, 0, 40, 25, 6, 3, 92, 46, 16, 64, 29, 104, 100, 79, 42, 21, 7]
abbrev dktX3_decode_2 : List UInt8 := dkwX3_decode_2 ++ dktX3_decode_3
def dkwX3_decode_1 : List UInt8 := [188, 10, 58, 6, 3, 54, 7, 21, 7, 28, 162, 0, 49, 25, 5, 25, 4, 21, 7, 29, 104, 29]
abbrev dktX3_decode_1 : List UInt8 := dkwX3_decode_1 ++ dktX3_decode_2
def dkwX3_decode_0 : List UInt8 := [43, 190, 5, 104, 188, 10, 58, 4, 25, 4, 43, 184, 0, 30, 17, 0, 128, 188, 10, 58, 5, 17, 0, 128]
abbrev dktX3_decode_0 : List UInt8 := dkwX3_decode_0 ++ dktX3_decode_1
theorem dksX3_decode_0 : cX3_decode.data.toList.drop 0 = dktX3_decode_0 := by decide +kernel
theorem dksX3_decode_1 : cX3_decode.data.toList.drop 24 = dktX3_decode_1 := dk_seg dksX3_decode_0 24 rfl rfl
theorem dksX3_decode_2 : cX3_decode.data.toList.drop 46 = dktX3_decode_2 := dk_seg dksX3_decode_1 22 rfl rfl
theorem dksX3_decode_3 : cX3_decode.data.toList.drop 70 = dktX3_decode_3 := dk_seg dksX3_decode_2 24 rfl rfl
theorem dX3_decode_0 : decode cX3_decode 0 = .ok (.aload_n 1, 1) := dk_43 (dk_at dksX3_decode_0 0 rfl rfl)
theorem dX3_decode_1 : decode cX3_decode 1 = .ok (.arraylength, 1) := dk_190 (dk_at dksX3_decode_0 1 rfl rfl)
theorem dX3_decode_2 : decode cX3_decode 2 = .ok (.iconst 2, 1) := dk_5 (dk_at dksX3_decode_0 2 rfl rfl)
theorem dX3_decode_3 : decode cX3_decode 3 = .ok (.imul, 1) := dk_104 (dk_at dksX3_decode_0 3 rfl rfl)
theorem dX3_decode_4 : decode cX3_decode 4 = .ok (.newarray .int, 2) := dk_188_10 (dk_at dksX3_decode_0 4 rfl rfl)
theorem dX3_decode_6 : decode cX3_decode 6 = .ok (.astore 4, 2) := dk_58 4 (dk_at dksX3_decode_0 6 rfl rfl)
theorem dX3_decode_8 : decode cX3_decode 8 = .ok (.aload 4, 2) := dk_25 4 (dk_at dksX3_decode_0 8 rfl rfl)
theorem dX3_decode_10 : decode cX3_decode 10 = .ok (.aload_n 1, 1) := dk_43 (dk_at dksX3_decode_0 10 rfl rfl)
theorem dX3_decode_11 : decode cX3_decode 11 = .ok (.invokestatic 30, 3) := dk_184 0 30 (dk_at dksX3_decode_0 11 rfl rfl)
theorem dX3_decode_14 : decode cX3_decode 14 = .ok (.sipush 128, 3) := dk_17 0 128 (dk_at dksX3_decode_0 14 rfl rfl)
theorem dX3_decode_17 : decode cX3_decode 17 = .ok (.newarray .int, 2) := dk_188_10 (dk_at dksX3_decode_0 17 rfl rfl)
theorem dX3_decode_19 : decode cX3_decode 19 = .ok (.astore 5, 2) := dk_58 5 (dk_at dksX3_decode_0 19 rfl rfl)
theorem dX3_decode_21 : decode cX3_decode 21 = .ok (.sipush 128, 3) := dk_17 0 128 (dk_at dksX3_decode_0 21 rfl rfl)
theorem dX3_decode_24 : decode cX3_decode 24 = .ok (.newarray .int, 2) := dk_188_10 (dk_at dksX3_decode_1 0 rfl rfl)
theorem dX3_decode_26 : decode cX3_decode 26 = .ok (.astore 6, 2) := dk_58 6 (dk_at dksX3_decode_1 2 rfl rfl)
theorem dX3_decode_28 : decode cX3_decode 28 = .ok (.iconst 0, 1) := dk_3 (dk_at dksX3_decode_1 4 rfl rfl)
theorem dX3_decode_29 : decode cX3_decode 29 = .ok (.istore 7, 2) := dk_54 7 (dk_at dksX3_decode_1 5 rfl rfl)
theorem dX3_decode_31 : decode cX3_decode 31 = .ok (.iload 7, 2) := dk_21 7 (dk_at dksX3_decode_1 7 rfl rfl)
theorem dX3_decode_33 : decode cX3_decode 33 = .ok (.iload_n 2, 1) := dk_28 (dk_at dksX3_decode_1 9 rfl rfl)
theorem dX3_decode_34 : decode cX3_decode 34 = .ok (.if_icmp .ge 49, 3) := dk_162 0 49 (dk_at dksX3_decode_1 10 rfl rfl)
theorem dX3_decode_37 : decode cX3_decode 37 = .ok (.aload 5, 2) := dk_25 5 (dk_at dksX3_decode_1 13 rfl rfl)
theorem dX3_decode_39 : decode cX3_decode 39 = .ok (.aload 4, 2) := dk_25 4 (dk_at dksX3_decode_1 15 rfl rfl)
theorem dX3_decode_41 : decode cX3_decode 41 = .ok (.iload 7, 2) := dk_21 7 (dk_at dksX3_decode_1 17 rfl rfl)
theorem dX3_decode_43 : decode cX3_decode 43 = .ok (.iload_n 3, 1) := dk_29 (dk_at dksX3_decode_1 19 rfl rfl)
theorem dX3_decode_44 : decode cX3_decode 44 = .ok (.imul, 1) := dk_104 (dk_at dksX3_decode_1 20 rfl rfl)
theorem dX3_decode_45 : decode cX3_decode 45 = .ok (.iload_n 3, 1) := dk_29 (dk_at dksX3_decode_1 21 rfl rfl)
theorem dX3_decode_46 : decode cX3_decode 46 = .ok (.invokestatic 36, 3) := dk_184 0 36 (dk_at dksX3_decode_2 0 rfl rfl)
theorem dX3_decode_49 : decode cX3_decode 49 = .ok (.aload 5, 2) := dk_25 5 (dk_at dksX3_decode_2 3 rfl rfl)
theorem dX3_decode_51 : decode cX3_decode 51 = .ok (.aload 6, 2) := dk_25 6 (dk_at dksX3_decode_2 5 rfl rfl)
theorem dX3_decode_53 : decode cX3_decode 53 = .ok (.invokestatic 40, 3) := dk_184 0 40 (dk_at dksX3_decode_2 7 rfl rfl)
theorem dX3_decode_56 : decode cX3_decode 56 = .ok (.aload 6, 2) := dk_25 6 (dk_at dksX3_decode_2 10 rfl rfl)
theorem dX3_decode_58 : decode cX3_decode 58 = .ok (.iconst 0, 1) := dk_3 (dk_at dksX3_decode_2 12 rfl rfl)
theorem dX3_decode_59 : decode cX3_decode 59 = .ok (.dup2, 1) := dk_92 (dk_at dksX3_decode_2 13 rfl rfl)
theorem dX3_decode_60 : decode cX3_decode 60 = .ok (.iaload, 1) := dk_46 (dk_at dksX3_decode_2 14 rfl rfl)
theorem dX3_decode_61 : decode cX3_decode 61 = .ok (.bipush 64, 2) := dk_16 64 (dk_at dksX3_decode_2 15 rfl rfl)
theorem dX3_decode_63 : decode cX3_decode 63 = .ok (.iload_n 3, 1) := dk_29 (dk_at dksX3_decode_2 17 rfl rfl)
theorem dX3_decode_64 : decode cX3_decode 64 = .ok (.imul, 1) := dk_104 (dk_at dksX3_decode_2 18 rfl rfl)
theorem dX3_decode_65 : decode cX3_decode 65 = .ok (.isub, 1) := dk_100 (dk_at dksX3_decode_2 19 rfl rfl)
theorem dX3_decode_66 : decode cX3_decode 66 = .ok (.iastore, 1) := dk_79 (dk_at dksX3_decode_2 20 rfl rfl)
theorem dX3_decode_67 : decode cX3_decode 67 = .ok (.aload_n 0, 1) := dk_42 (dk_at dksX3_decode_2 21 rfl rfl)
theorem dX3_decode_68 : decode cX3_decode 68 = .ok (.iload 7, 2) := dk_21 7 (dk_at dksX3_decode_2 22 rfl rfl)
theorem dX3_decode_70 : decode cX3_decode 70 = .ok (.aload 6, 2) := dk_25 6 (dk_at dksX3_decode_3 0 rfl rfl)
theorem dX3_decode_72 : decode cX3_decode 72 = .ok (.invokestatic 44, 3) := dk_184 0 44 (dk_at dksX3_decode_3 2 rfl rfl)
theorem dX3_decode_75 : decode cX3_decode 75 = .ok (.i2b, 1) := dk_145 (dk_at dksX3_decode_3 5 rfl rfl)
theorem dX3_decode_76 : decode cX3_decode 76 = .ok (.bastore, 1) := dk_84 (dk_at dksX3_decode_3 6 rfl rfl)
theorem dX3_decode_77 : decode cX3_decode 77 = .ok (.iinc 7 1, 3) := dk_132 7 1 (dk_at dksX3_decode_3 7 rfl rfl)
theorem dX3_decode_80 : decode cX3_decode 80 = .ok (.goto (-49), 3) := dk_167 255 207 (dk_at dksX3_decode_3 10 rfl rfl)
theorem dX3_decode_83 : decode cX3_decode 83 = .ok (.return_, 1) := dk_177 (dk_at dksX3_decode_3 13 rfl rfl)
abbrev cX3_expandThenSum : ByteArray := prog_4_method_4_code
def yX3_expandThenSum : MethodName := ⟨RX3, "expandThenSum", "([I[III)V"⟩
def dkwX3_expandThenSum_6 : List UInt8 := [167, 255, 229, 132, 7, 1, 167, 255, 198, 132, 5, 1, 167, 255, 174, 177]
abbrev dktX3_expandThenSum_6 : List UInt8 := dkwX3_expandThenSum_6 ++ []
def dkwX3_expandThenSum_5 : List UInt8 := [162, 0, 26, 42, 21, 9, 21, 10, 96, 92, 46, 21, 8, 21, 10, 122, 4, 126, 96, 79, 132, 10, 1]
abbrev dktX3_expandThenSum_5 : List UInt8 := dkwX3_expandThenSum_5 ++ dktX3_expandThenSum_6
def dkwX3_expandThenSum_4 : List UInt8 := [43, 21, 6, 21, 7, 96, 46, 54, 8, 21, 7, 16, 32, 104, 54, 9, 3, 54, 10, 21, 10, 16, 32]
abbrev dktX3_expandThenSum_4 : List UInt8 := dkwX3_expandThenSum_4 ++ dktX3_expandThenSum_5
def dkwX3_expandThenSum_3 : List UInt8 := [21, 5, 29, 162, 0, 82, 21, 4, 21, 5, 7, 104, 96, 54, 6, 3, 54, 7, 21, 7, 7, 162, 0, 58]
abbrev dktX3_expandThenSum_3 : List UInt8 := dkwX3_expandThenSum_3 ++ dktX3_expandThenSum_4
def dkwX3_expandThenSum_2 : List UInt8 := [21, 6, 21, 8, 122, 4, 126, 79, 132, 8, 1, 167, 255, 232, 132, 5, 1, 167, 255, 201, 4, 54, 5]
abbrev dktX3_expandThenSum_2 : List UInt8 := dkwX3_expandThenSum_2 ++ dktX3_expandThenSum_3
def dkwX3_expandThenSum_1 : List UInt8 := [21, 5, 16, 32, 104, 54, 7, 3, 54, 8, 21, 8, 16, 32, 162, 0, 23, 42, 21, 7, 21, 8, 96]
abbrev dktX3_expandThenSum_1 : List UInt8 := dkwX3_expandThenSum_1 ++ dktX3_expandThenSum_2
def dkwX3_expandThenSum_0 : List UInt8 := [28, 7, 104, 54, 4, 3, 54, 5, 21, 5, 7, 162, 0, 55, 43, 21, 4, 21, 5, 96, 46, 54, 6]
abbrev dktX3_expandThenSum_0 : List UInt8 := dkwX3_expandThenSum_0 ++ dktX3_expandThenSum_1
theorem dksX3_expandThenSum_0 : cX3_expandThenSum.data.toList.drop 0 = dktX3_expandThenSum_0 := by decide +kernel
theorem dksX3_expandThenSum_1 : cX3_expandThenSum.data.toList.drop 23 = dktX3_expandThenSum_1 := dk_seg dksX3_expandThenSum_0 23 rfl rfl
theorem dksX3_expandThenSum_2 : cX3_expandThenSum.data.toList.drop 46 = dktX3_expandThenSum_2 := dk_seg dksX3_expandThenSum_1 23 rfl rfl
theorem dksX3_expandThenSum_3 : cX3_expandThenSum.data.toList.drop 69 = dktX3_expandThenSum_3 := dk_seg dksX3_expandThenSum_2 23 rfl rfl
theorem dksX3_expandThenSum_4 : cX3_expandThenSum.data.toList.drop 93 = dktX3_expandThenSum_4 := dk_seg dksX3_expandThenSum_3 24 rfl rfl
theorem dksX3_expandThenSum_5 : cX3_expandThenSum.data.toList.drop 116 = dktX3_expandThenSum_5 := dk_seg dksX3_expandThenSum_4 23 rfl rfl
theorem dksX3_expandThenSum_6 : cX3_expandThenSum.data.toList.drop 139 = dktX3_expandThenSum_6 := dk_seg dksX3_expandThenSum_5 23 rfl rfl
theorem dX3_expandThenSum_0 : decode cX3_expandThenSum 0 = .ok (.iload_n 2, 1) := dk_28 (dk_at dksX3_expandThenSum_0 0 rfl rfl)
theorem dX3_expandThenSum_1 : decode cX3_expandThenSum 1 = .ok (.iconst 4, 1) := dk_7 (dk_at dksX3_expandThenSum_0 1 rfl rfl)
theorem dX3_expandThenSum_2 : decode cX3_expandThenSum 2 = .ok (.imul, 1) := dk_104 (dk_at dksX3_expandThenSum_0 2 rfl rfl)
theorem dX3_expandThenSum_3 : decode cX3_expandThenSum 3 = .ok (.istore 4, 2) := dk_54 4 (dk_at dksX3_expandThenSum_0 3 rfl rfl)
theorem dX3_expandThenSum_5 : decode cX3_expandThenSum 5 = .ok (.iconst 0, 1) := dk_3 (dk_at dksX3_expandThenSum_0 5 rfl rfl)
theorem dX3_expandThenSum_6 : decode cX3_expandThenSum 6 = .ok (.istore 5, 2) := dk_54 5 (dk_at dksX3_expandThenSum_0 6 rfl rfl)
theorem dX3_expandThenSum_8 : decode cX3_expandThenSum 8 = .ok (.iload 5, 2) := dk_21 5 (dk_at dksX3_expandThenSum_0 8 rfl rfl)
theorem dX3_expandThenSum_10 : decode cX3_expandThenSum 10 = .ok (.iconst 4, 1) := dk_7 (dk_at dksX3_expandThenSum_0 10 rfl rfl)
theorem dX3_expandThenSum_11 : decode cX3_expandThenSum 11 = .ok (.if_icmp .ge 55, 3) := dk_162 0 55 (dk_at dksX3_expandThenSum_0 11 rfl rfl)
theorem dX3_expandThenSum_14 : decode cX3_expandThenSum 14 = .ok (.aload_n 1, 1) := dk_43 (dk_at dksX3_expandThenSum_0 14 rfl rfl)
theorem dX3_expandThenSum_15 : decode cX3_expandThenSum 15 = .ok (.iload 4, 2) := dk_21 4 (dk_at dksX3_expandThenSum_0 15 rfl rfl)
theorem dX3_expandThenSum_17 : decode cX3_expandThenSum 17 = .ok (.iload 5, 2) := dk_21 5 (dk_at dksX3_expandThenSum_0 17 rfl rfl)
theorem dX3_expandThenSum_19 : decode cX3_expandThenSum 19 = .ok (.iadd, 1) := dk_96 (dk_at dksX3_expandThenSum_0 19 rfl rfl)
theorem dX3_expandThenSum_20 : decode cX3_expandThenSum 20 = .ok (.iaload, 1) := dk_46 (dk_at dksX3_expandThenSum_0 20 rfl rfl)
theorem dX3_expandThenSum_21 : decode cX3_expandThenSum 21 = .ok (.istore 6, 2) := dk_54 6 (dk_at dksX3_expandThenSum_0 21 rfl rfl)
theorem dX3_expandThenSum_23 : decode cX3_expandThenSum 23 = .ok (.iload 5, 2) := dk_21 5 (dk_at dksX3_expandThenSum_1 0 rfl rfl)
theorem dX3_expandThenSum_25 : decode cX3_expandThenSum 25 = .ok (.bipush 32, 2) := dk_16 32 (dk_at dksX3_expandThenSum_1 2 rfl rfl)
theorem dX3_expandThenSum_27 : decode cX3_expandThenSum 27 = .ok (.imul, 1) := dk_104 (dk_at dksX3_expandThenSum_1 4 rfl rfl)
theorem dX3_expandThenSum_28 : decode cX3_expandThenSum 28 = .ok (.istore 7, 2) := dk_54 7 (dk_at dksX3_expandThenSum_1 5 rfl rfl)
theorem dX3_expandThenSum_30 : decode cX3_expandThenSum 30 = .ok (.iconst 0, 1) := dk_3 (dk_at dksX3_expandThenSum_1 7 rfl rfl)
theorem dX3_expandThenSum_31 : decode cX3_expandThenSum 31 = .ok (.istore 8, 2) := dk_54 8 (dk_at dksX3_expandThenSum_1 8 rfl rfl)
theorem dX3_expandThenSum_33 : decode cX3_expandThenSum 33 = .ok (.iload 8, 2) := dk_21 8 (dk_at dksX3_expandThenSum_1 10 rfl rfl)
theorem dX3_expandThenSum_35 : decode cX3_expandThenSum 35 = .ok (.bipush 32, 2) := dk_16 32 (dk_at dksX3_expandThenSum_1 12 rfl rfl)
theorem dX3_expandThenSum_37 : decode cX3_expandThenSum 37 = .ok (.if_icmp .ge 23, 3) := dk_162 0 23 (dk_at dksX3_expandThenSum_1 14 rfl rfl)
theorem dX3_expandThenSum_40 : decode cX3_expandThenSum 40 = .ok (.aload_n 0, 1) := dk_42 (dk_at dksX3_expandThenSum_1 17 rfl rfl)
theorem dX3_expandThenSum_41 : decode cX3_expandThenSum 41 = .ok (.iload 7, 2) := dk_21 7 (dk_at dksX3_expandThenSum_1 18 rfl rfl)
theorem dX3_expandThenSum_43 : decode cX3_expandThenSum 43 = .ok (.iload 8, 2) := dk_21 8 (dk_at dksX3_expandThenSum_1 20 rfl rfl)
theorem dX3_expandThenSum_45 : decode cX3_expandThenSum 45 = .ok (.iadd, 1) := dk_96 (dk_at dksX3_expandThenSum_1 22 rfl rfl)
theorem dX3_expandThenSum_46 : decode cX3_expandThenSum 46 = .ok (.iload 6, 2) := dk_21 6 (dk_at dksX3_expandThenSum_2 0 rfl rfl)
theorem dX3_expandThenSum_48 : decode cX3_expandThenSum 48 = .ok (.iload 8, 2) := dk_21 8 (dk_at dksX3_expandThenSum_2 2 rfl rfl)
theorem dX3_expandThenSum_50 : decode cX3_expandThenSum 50 = .ok (.ishr, 1) := dk_122 (dk_at dksX3_expandThenSum_2 4 rfl rfl)
theorem dX3_expandThenSum_51 : decode cX3_expandThenSum 51 = .ok (.iconst 1, 1) := dk_4 (dk_at dksX3_expandThenSum_2 5 rfl rfl)
theorem dX3_expandThenSum_52 : decode cX3_expandThenSum 52 = .ok (.iand, 1) := dk_126 (dk_at dksX3_expandThenSum_2 6 rfl rfl)
theorem dX3_expandThenSum_53 : decode cX3_expandThenSum 53 = .ok (.iastore, 1) := dk_79 (dk_at dksX3_expandThenSum_2 7 rfl rfl)
theorem dX3_expandThenSum_54 : decode cX3_expandThenSum 54 = .ok (.iinc 8 1, 3) := dk_132 8 1 (dk_at dksX3_expandThenSum_2 8 rfl rfl)
theorem dX3_expandThenSum_57 : decode cX3_expandThenSum 57 = .ok (.goto (-24), 3) := dk_167 255 232 (dk_at dksX3_expandThenSum_2 11 rfl rfl)
theorem dX3_expandThenSum_60 : decode cX3_expandThenSum 60 = .ok (.iinc 5 1, 3) := dk_132 5 1 (dk_at dksX3_expandThenSum_2 14 rfl rfl)
theorem dX3_expandThenSum_63 : decode cX3_expandThenSum 63 = .ok (.goto (-55), 3) := dk_167 255 201 (dk_at dksX3_expandThenSum_2 17 rfl rfl)
theorem dX3_expandThenSum_66 : decode cX3_expandThenSum 66 = .ok (.iconst 1, 1) := dk_4 (dk_at dksX3_expandThenSum_2 20 rfl rfl)
theorem dX3_expandThenSum_67 : decode cX3_expandThenSum 67 = .ok (.istore 5, 2) := dk_54 5 (dk_at dksX3_expandThenSum_2 21 rfl rfl)
theorem dX3_expandThenSum_69 : decode cX3_expandThenSum 69 = .ok (.iload 5, 2) := dk_21 5 (dk_at dksX3_expandThenSum_3 0 rfl rfl)
theorem dX3_expandThenSum_71 : decode cX3_expandThenSum 71 = .ok (.iload_n 3, 1) := dk_29 (dk_at dksX3_expandThenSum_3 2 rfl rfl)
theorem dX3_expandThenSum_72 : decode cX3_expandThenSum 72 = .ok (.if_icmp .ge 82, 3) := dk_162 0 82 (dk_at dksX3_expandThenSum_3 3 rfl rfl)
theorem dX3_expandThenSum_75 : decode cX3_expandThenSum 75 = .ok (.iload 4, 2) := dk_21 4 (dk_at dksX3_expandThenSum_3 6 rfl rfl)
theorem dX3_expandThenSum_77 : decode cX3_expandThenSum 77 = .ok (.iload 5, 2) := dk_21 5 (dk_at dksX3_expandThenSum_3 8 rfl rfl)
theorem dX3_expandThenSum_79 : decode cX3_expandThenSum 79 = .ok (.iconst 4, 1) := dk_7 (dk_at dksX3_expandThenSum_3 10 rfl rfl)
theorem dX3_expandThenSum_80 : decode cX3_expandThenSum 80 = .ok (.imul, 1) := dk_104 (dk_at dksX3_expandThenSum_3 11 rfl rfl)
theorem dX3_expandThenSum_81 : decode cX3_expandThenSum 81 = .ok (.iadd, 1) := dk_96 (dk_at dksX3_expandThenSum_3 12 rfl rfl)
theorem dX3_expandThenSum_82 : decode cX3_expandThenSum 82 = .ok (.istore 6, 2) := dk_54 6 (dk_at dksX3_expandThenSum_3 13 rfl rfl)
theorem dX3_expandThenSum_84 : decode cX3_expandThenSum 84 = .ok (.iconst 0, 1) := dk_3 (dk_at dksX3_expandThenSum_3 15 rfl rfl)
theorem dX3_expandThenSum_85 : decode cX3_expandThenSum 85 = .ok (.istore 7, 2) := dk_54 7 (dk_at dksX3_expandThenSum_3 16 rfl rfl)
theorem dX3_expandThenSum_87 : decode cX3_expandThenSum 87 = .ok (.iload 7, 2) := dk_21 7 (dk_at dksX3_expandThenSum_3 18 rfl rfl)
theorem dX3_expandThenSum_89 : decode cX3_expandThenSum 89 = .ok (.iconst 4, 1) := dk_7 (dk_at dksX3_expandThenSum_3 20 rfl rfl)
theorem dX3_expandThenSum_90 : decode cX3_expandThenSum 90 = .ok (.if_icmp .ge 58, 3) := dk_162 0 58 (dk_at dksX3_expandThenSum_3 21 rfl rfl)
theorem dX3_expandThenSum_93 : decode cX3_expandThenSum 93 = .ok (.aload_n 1, 1) := dk_43 (dk_at dksX3_expandThenSum_4 0 rfl rfl)
theorem dX3_expandThenSum_94 : decode cX3_expandThenSum 94 = .ok (.iload 6, 2) := dk_21 6 (dk_at dksX3_expandThenSum_4 1 rfl rfl)
theorem dX3_expandThenSum_96 : decode cX3_expandThenSum 96 = .ok (.iload 7, 2) := dk_21 7 (dk_at dksX3_expandThenSum_4 3 rfl rfl)
theorem dX3_expandThenSum_98 : decode cX3_expandThenSum 98 = .ok (.iadd, 1) := dk_96 (dk_at dksX3_expandThenSum_4 5 rfl rfl)
theorem dX3_expandThenSum_99 : decode cX3_expandThenSum 99 = .ok (.iaload, 1) := dk_46 (dk_at dksX3_expandThenSum_4 6 rfl rfl)
theorem dX3_expandThenSum_100 : decode cX3_expandThenSum 100 = .ok (.istore 8, 2) := dk_54 8 (dk_at dksX3_expandThenSum_4 7 rfl rfl)
theorem dX3_expandThenSum_102 : decode cX3_expandThenSum 102 = .ok (.iload 7, 2) := dk_21 7 (dk_at dksX3_expandThenSum_4 9 rfl rfl)
theorem dX3_expandThenSum_104 : decode cX3_expandThenSum 104 = .ok (.bipush 32, 2) := dk_16 32 (dk_at dksX3_expandThenSum_4 11 rfl rfl)
theorem dX3_expandThenSum_106 : decode cX3_expandThenSum 106 = .ok (.imul, 1) := dk_104 (dk_at dksX3_expandThenSum_4 13 rfl rfl)
theorem dX3_expandThenSum_107 : decode cX3_expandThenSum 107 = .ok (.istore 9, 2) := dk_54 9 (dk_at dksX3_expandThenSum_4 14 rfl rfl)
theorem dX3_expandThenSum_109 : decode cX3_expandThenSum 109 = .ok (.iconst 0, 1) := dk_3 (dk_at dksX3_expandThenSum_4 16 rfl rfl)
theorem dX3_expandThenSum_110 : decode cX3_expandThenSum 110 = .ok (.istore 10, 2) := dk_54 10 (dk_at dksX3_expandThenSum_4 17 rfl rfl)
theorem dX3_expandThenSum_112 : decode cX3_expandThenSum 112 = .ok (.iload 10, 2) := dk_21 10 (dk_at dksX3_expandThenSum_4 19 rfl rfl)
theorem dX3_expandThenSum_114 : decode cX3_expandThenSum 114 = .ok (.bipush 32, 2) := dk_16 32 (dk_at dksX3_expandThenSum_4 21 rfl rfl)
theorem dX3_expandThenSum_116 : decode cX3_expandThenSum 116 = .ok (.if_icmp .ge 26, 3) := dk_162 0 26 (dk_at dksX3_expandThenSum_5 0 rfl rfl)
theorem dX3_expandThenSum_119 : decode cX3_expandThenSum 119 = .ok (.aload_n 0, 1) := dk_42 (dk_at dksX3_expandThenSum_5 3 rfl rfl)
theorem dX3_expandThenSum_120 : decode cX3_expandThenSum 120 = .ok (.iload 9, 2) := dk_21 9 (dk_at dksX3_expandThenSum_5 4 rfl rfl)
theorem dX3_expandThenSum_122 : decode cX3_expandThenSum 122 = .ok (.iload 10, 2) := dk_21 10 (dk_at dksX3_expandThenSum_5 6 rfl rfl)
theorem dX3_expandThenSum_124 : decode cX3_expandThenSum 124 = .ok (.iadd, 1) := dk_96 (dk_at dksX3_expandThenSum_5 8 rfl rfl)
theorem dX3_expandThenSum_125 : decode cX3_expandThenSum 125 = .ok (.dup2, 1) := dk_92 (dk_at dksX3_expandThenSum_5 9 rfl rfl)
theorem dX3_expandThenSum_126 : decode cX3_expandThenSum 126 = .ok (.iaload, 1) := dk_46 (dk_at dksX3_expandThenSum_5 10 rfl rfl)
theorem dX3_expandThenSum_127 : decode cX3_expandThenSum 127 = .ok (.iload 8, 2) := dk_21 8 (dk_at dksX3_expandThenSum_5 11 rfl rfl)
theorem dX3_expandThenSum_129 : decode cX3_expandThenSum 129 = .ok (.iload 10, 2) := dk_21 10 (dk_at dksX3_expandThenSum_5 13 rfl rfl)
theorem dX3_expandThenSum_131 : decode cX3_expandThenSum 131 = .ok (.ishr, 1) := dk_122 (dk_at dksX3_expandThenSum_5 15 rfl rfl)
theorem dX3_expandThenSum_132 : decode cX3_expandThenSum 132 = .ok (.iconst 1, 1) := dk_4 (dk_at dksX3_expandThenSum_5 16 rfl rfl)
theorem dX3_expandThenSum_133 : decode cX3_expandThenSum 133 = .ok (.iand, 1) := dk_126 (dk_at dksX3_expandThenSum_5 17 rfl rfl)
theorem dX3_expandThenSum_134 : decode cX3_expandThenSum 134 = .ok (.iadd, 1) := dk_96 (dk_at dksX3_expandThenSum_5 18 rfl rfl)
theorem dX3_expandThenSum_135 : decode cX3_expandThenSum 135 = .ok (.iastore, 1) := dk_79 (dk_at dksX3_expandThenSum_5 19 rfl rfl)
theorem dX3_expandThenSum_136 : decode cX3_expandThenSum 136 = .ok (.iinc 10 1, 3) := dk_132 10 1 (dk_at dksX3_expandThenSum_5 20 rfl rfl)
theorem dX3_expandThenSum_139 : decode cX3_expandThenSum 139 = .ok (.goto (-27), 3) := dk_167 255 229 (dk_at dksX3_expandThenSum_6 0 rfl rfl)
theorem dX3_expandThenSum_142 : decode cX3_expandThenSum 142 = .ok (.iinc 7 1, 3) := dk_132 7 1 (dk_at dksX3_expandThenSum_6 3 rfl rfl)
theorem dX3_expandThenSum_145 : decode cX3_expandThenSum 145 = .ok (.goto (-58), 3) := dk_167 255 198 (dk_at dksX3_expandThenSum_6 6 rfl rfl)
theorem dX3_expandThenSum_148 : decode cX3_expandThenSum 148 = .ok (.iinc 5 1, 3) := dk_132 5 1 (dk_at dksX3_expandThenSum_6 9 rfl rfl)
theorem dX3_expandThenSum_151 : decode cX3_expandThenSum 151 = .ok (.goto (-82), 3) := dk_167 255 174 (dk_at dksX3_expandThenSum_6 12 rfl rfl)
theorem dX3_expandThenSum_154 : decode cX3_expandThenSum 154 = .ok (.return_, 1) := dk_177 (dk_at dksX3_expandThenSum_6 15 rfl rfl)
abbrev cX3_hadamardTransform : ByteArray := prog_4_method_3_code
def yX3_hadamardTransform : MethodName := ⟨RX3, "hadamardTransform", "([I[I)V"⟩
def dkwX3_hadamardTransform_2 : List UInt8 := [21, 5, 100, 79, 132, 3, 1, 167, 255, 212, 42, 78, 43, 75, 45, 76, 132, 2, 1, 167, 255, 192, 177]
abbrev dktX3_hadamardTransform_2 : List UInt8 := dkwX3_hadamardTransform_2 ++ []
def dkwX3_hadamardTransform_1 : List UInt8 := [5, 29, 104, 4, 96, 46, 54, 5, 43, 29, 21, 4, 21, 5, 96, 79, 43, 29, 16, 64, 96, 21, 4]
abbrev dktX3_hadamardTransform_1 : List UInt8 := dkwX3_hadamardTransform_1 ++ dktX3_hadamardTransform_2
def dkwX3_hadamardTransform_0 : List UInt8 := [3, 61, 28, 16, 7, 162, 0, 64, 3, 62, 29, 16, 64, 162, 0, 44, 42, 5, 29, 104, 46, 54, 4, 42]
abbrev dktX3_hadamardTransform_0 : List UInt8 := dkwX3_hadamardTransform_0 ++ dktX3_hadamardTransform_1
theorem dksX3_hadamardTransform_0 : cX3_hadamardTransform.data.toList.drop 0 = dktX3_hadamardTransform_0 := by decide +kernel
theorem dksX3_hadamardTransform_1 : cX3_hadamardTransform.data.toList.drop 24 = dktX3_hadamardTransform_1 := dk_seg dksX3_hadamardTransform_0 24 rfl rfl
theorem dksX3_hadamardTransform_2 : cX3_hadamardTransform.data.toList.drop 47 = dktX3_hadamardTransform_2 := dk_seg dksX3_hadamardTransform_1 23 rfl rfl
theorem dX3_hadamardTransform_0 : decode cX3_hadamardTransform 0 = .ok (.iconst 0, 1) := dk_3 (dk_at dksX3_hadamardTransform_0 0 rfl rfl)
theorem dX3_hadamardTransform_1 : decode cX3_hadamardTransform 1 = .ok (.istore_n 2, 1) := dk_61 (dk_at dksX3_hadamardTransform_0 1 rfl rfl)
theorem dX3_hadamardTransform_2 : decode cX3_hadamardTransform 2 = .ok (.iload_n 2, 1) := dk_28 (dk_at dksX3_hadamardTransform_0 2 rfl rfl)
theorem dX3_hadamardTransform_3 : decode cX3_hadamardTransform 3 = .ok (.bipush 7, 2) := dk_16 7 (dk_at dksX3_hadamardTransform_0 3 rfl rfl)
theorem dX3_hadamardTransform_5 : decode cX3_hadamardTransform 5 = .ok (.if_icmp .ge 64, 3) := dk_162 0 64 (dk_at dksX3_hadamardTransform_0 5 rfl rfl)
theorem dX3_hadamardTransform_8 : decode cX3_hadamardTransform 8 = .ok (.iconst 0, 1) := dk_3 (dk_at dksX3_hadamardTransform_0 8 rfl rfl)
theorem dX3_hadamardTransform_9 : decode cX3_hadamardTransform 9 = .ok (.istore_n 3, 1) := dk_62 (dk_at dksX3_hadamardTransform_0 9 rfl rfl)
theorem dX3_hadamardTransform_10 : decode cX3_hadamardTransform 10 = .ok (.iload_n 3, 1) := dk_29 (dk_at dksX3_hadamardTransform_0 10 rfl rfl)
theorem dX3_hadamardTransform_11 : decode cX3_hadamardTransform 11 = .ok (.bipush 64, 2) := dk_16 64 (dk_at dksX3_hadamardTransform_0 11 rfl rfl)
theorem dX3_hadamardTransform_13 : decode cX3_hadamardTransform 13 = .ok (.if_icmp .ge 44, 3) := dk_162 0 44 (dk_at dksX3_hadamardTransform_0 13 rfl rfl)
theorem dX3_hadamardTransform_16 : decode cX3_hadamardTransform 16 = .ok (.aload_n 0, 1) := dk_42 (dk_at dksX3_hadamardTransform_0 16 rfl rfl)
theorem dX3_hadamardTransform_17 : decode cX3_hadamardTransform 17 = .ok (.iconst 2, 1) := dk_5 (dk_at dksX3_hadamardTransform_0 17 rfl rfl)
theorem dX3_hadamardTransform_18 : decode cX3_hadamardTransform 18 = .ok (.iload_n 3, 1) := dk_29 (dk_at dksX3_hadamardTransform_0 18 rfl rfl)
theorem dX3_hadamardTransform_19 : decode cX3_hadamardTransform 19 = .ok (.imul, 1) := dk_104 (dk_at dksX3_hadamardTransform_0 19 rfl rfl)
theorem dX3_hadamardTransform_20 : decode cX3_hadamardTransform 20 = .ok (.iaload, 1) := dk_46 (dk_at dksX3_hadamardTransform_0 20 rfl rfl)
theorem dX3_hadamardTransform_21 : decode cX3_hadamardTransform 21 = .ok (.istore 4, 2) := dk_54 4 (dk_at dksX3_hadamardTransform_0 21 rfl rfl)
theorem dX3_hadamardTransform_23 : decode cX3_hadamardTransform 23 = .ok (.aload_n 0, 1) := dk_42 (dk_at dksX3_hadamardTransform_0 23 rfl rfl)
theorem dX3_hadamardTransform_24 : decode cX3_hadamardTransform 24 = .ok (.iconst 2, 1) := dk_5 (dk_at dksX3_hadamardTransform_1 0 rfl rfl)
theorem dX3_hadamardTransform_25 : decode cX3_hadamardTransform 25 = .ok (.iload_n 3, 1) := dk_29 (dk_at dksX3_hadamardTransform_1 1 rfl rfl)
theorem dX3_hadamardTransform_26 : decode cX3_hadamardTransform 26 = .ok (.imul, 1) := dk_104 (dk_at dksX3_hadamardTransform_1 2 rfl rfl)
theorem dX3_hadamardTransform_27 : decode cX3_hadamardTransform 27 = .ok (.iconst 1, 1) := dk_4 (dk_at dksX3_hadamardTransform_1 3 rfl rfl)
theorem dX3_hadamardTransform_28 : decode cX3_hadamardTransform 28 = .ok (.iadd, 1) := dk_96 (dk_at dksX3_hadamardTransform_1 4 rfl rfl)
theorem dX3_hadamardTransform_29 : decode cX3_hadamardTransform 29 = .ok (.iaload, 1) := dk_46 (dk_at dksX3_hadamardTransform_1 5 rfl rfl)
theorem dX3_hadamardTransform_30 : decode cX3_hadamardTransform 30 = .ok (.istore 5, 2) := dk_54 5 (dk_at dksX3_hadamardTransform_1 6 rfl rfl)
theorem dX3_hadamardTransform_32 : decode cX3_hadamardTransform 32 = .ok (.aload_n 1, 1) := dk_43 (dk_at dksX3_hadamardTransform_1 8 rfl rfl)
theorem dX3_hadamardTransform_33 : decode cX3_hadamardTransform 33 = .ok (.iload_n 3, 1) := dk_29 (dk_at dksX3_hadamardTransform_1 9 rfl rfl)
theorem dX3_hadamardTransform_34 : decode cX3_hadamardTransform 34 = .ok (.iload 4, 2) := dk_21 4 (dk_at dksX3_hadamardTransform_1 10 rfl rfl)
theorem dX3_hadamardTransform_36 : decode cX3_hadamardTransform 36 = .ok (.iload 5, 2) := dk_21 5 (dk_at dksX3_hadamardTransform_1 12 rfl rfl)
theorem dX3_hadamardTransform_38 : decode cX3_hadamardTransform 38 = .ok (.iadd, 1) := dk_96 (dk_at dksX3_hadamardTransform_1 14 rfl rfl)
theorem dX3_hadamardTransform_39 : decode cX3_hadamardTransform 39 = .ok (.iastore, 1) := dk_79 (dk_at dksX3_hadamardTransform_1 15 rfl rfl)
theorem dX3_hadamardTransform_40 : decode cX3_hadamardTransform 40 = .ok (.aload_n 1, 1) := dk_43 (dk_at dksX3_hadamardTransform_1 16 rfl rfl)
theorem dX3_hadamardTransform_41 : decode cX3_hadamardTransform 41 = .ok (.iload_n 3, 1) := dk_29 (dk_at dksX3_hadamardTransform_1 17 rfl rfl)
theorem dX3_hadamardTransform_42 : decode cX3_hadamardTransform 42 = .ok (.bipush 64, 2) := dk_16 64 (dk_at dksX3_hadamardTransform_1 18 rfl rfl)
theorem dX3_hadamardTransform_44 : decode cX3_hadamardTransform 44 = .ok (.iadd, 1) := dk_96 (dk_at dksX3_hadamardTransform_1 20 rfl rfl)
theorem dX3_hadamardTransform_45 : decode cX3_hadamardTransform 45 = .ok (.iload 4, 2) := dk_21 4 (dk_at dksX3_hadamardTransform_1 21 rfl rfl)
theorem dX3_hadamardTransform_47 : decode cX3_hadamardTransform 47 = .ok (.iload 5, 2) := dk_21 5 (dk_at dksX3_hadamardTransform_2 0 rfl rfl)
theorem dX3_hadamardTransform_49 : decode cX3_hadamardTransform 49 = .ok (.isub, 1) := dk_100 (dk_at dksX3_hadamardTransform_2 2 rfl rfl)
theorem dX3_hadamardTransform_50 : decode cX3_hadamardTransform 50 = .ok (.iastore, 1) := dk_79 (dk_at dksX3_hadamardTransform_2 3 rfl rfl)
theorem dX3_hadamardTransform_51 : decode cX3_hadamardTransform 51 = .ok (.iinc 3 1, 3) := dk_132 3 1 (dk_at dksX3_hadamardTransform_2 4 rfl rfl)
theorem dX3_hadamardTransform_54 : decode cX3_hadamardTransform 54 = .ok (.goto (-44), 3) := dk_167 255 212 (dk_at dksX3_hadamardTransform_2 7 rfl rfl)
theorem dX3_hadamardTransform_57 : decode cX3_hadamardTransform 57 = .ok (.aload_n 0, 1) := dk_42 (dk_at dksX3_hadamardTransform_2 10 rfl rfl)
theorem dX3_hadamardTransform_58 : decode cX3_hadamardTransform 58 = .ok (.astore_n 3, 1) := dk_78 (dk_at dksX3_hadamardTransform_2 11 rfl rfl)
theorem dX3_hadamardTransform_59 : decode cX3_hadamardTransform 59 = .ok (.aload_n 1, 1) := dk_43 (dk_at dksX3_hadamardTransform_2 12 rfl rfl)
theorem dX3_hadamardTransform_60 : decode cX3_hadamardTransform 60 = .ok (.astore_n 0, 1) := dk_75 (dk_at dksX3_hadamardTransform_2 13 rfl rfl)
theorem dX3_hadamardTransform_61 : decode cX3_hadamardTransform 61 = .ok (.aload_n 3, 1) := dk_45 (dk_at dksX3_hadamardTransform_2 14 rfl rfl)
theorem dX3_hadamardTransform_62 : decode cX3_hadamardTransform 62 = .ok (.astore_n 1, 1) := dk_76 (dk_at dksX3_hadamardTransform_2 15 rfl rfl)
theorem dX3_hadamardTransform_63 : decode cX3_hadamardTransform 63 = .ok (.iinc 2 1, 3) := dk_132 2 1 (dk_at dksX3_hadamardTransform_2 16 rfl rfl)
theorem dX3_hadamardTransform_66 : decode cX3_hadamardTransform 66 = .ok (.goto (-64), 3) := dk_167 255 192 (dk_at dksX3_hadamardTransform_2 19 rfl rfl)
theorem dX3_hadamardTransform_69 : decode cX3_hadamardTransform 69 = .ok (.return_, 1) := dk_177 (dk_at dksX3_hadamardTransform_2 22 rfl rfl)
abbrev cX3_findPeaks : ByteArray := prog_4_method_5_code
def yX3_findPeaks : MethodName := ⟨RX3, "findPeaks", "([I)I"⟩
def dkwX3_findPeaks_4 : List UInt8 := [4, 167, 0, 4, 3, 54, 4, 29, 17, 0, 128, 21, 4, 104, 128, 62, 29, 172]
abbrev dktX3_findPeaks_4 : List UInt8 := dkwX3_findPeaks_4 ++ []
def dkwX3_findPeaks_3 : List UInt8 := [21, 4, 167, 0, 4, 29, 62, 21, 7, 27, 184, 0, 18, 60, 132, 4, 1, 167, 255, 178, 28, 158, 0, 7]
abbrev dktX3_findPeaks_3 : List UInt8 := dkwX3_findPeaks_3 ++ dktX3_findPeaks_4
def dkwX3_findPeaks_2 : List UInt8 := [126, 128, 54, 7, 21, 7, 27, 164, 0, 8, 21, 5, 167, 0, 4, 28, 61, 21, 7, 27, 164, 0, 8]
abbrev dktX3_findPeaks_2 : List UInt8 := dkwX3_findPeaks_2 ++ dktX3_findPeaks_3
def dkwX3_findPeaks_1 : List UInt8 := [21, 5, 158, 0, 7, 2, 167, 0, 4, 3, 54, 6, 21, 6, 21, 5, 126, 21, 6, 2, 130, 21, 5, 116]
abbrev dktX3_findPeaks_1 : List UInt8 := dkwX3_findPeaks_1 ++ dktX3_findPeaks_2
def dkwX3_findPeaks_0 : List UInt8 := [3, 60, 3, 61, 3, 62, 3, 54, 4, 21, 4, 17, 0, 128, 162, 0, 76, 42, 21, 4, 46, 54, 5]
abbrev dktX3_findPeaks_0 : List UInt8 := dkwX3_findPeaks_0 ++ dktX3_findPeaks_1
theorem dksX3_findPeaks_0 : cX3_findPeaks.data.toList.drop 0 = dktX3_findPeaks_0 := by decide +kernel
theorem dksX3_findPeaks_1 : cX3_findPeaks.data.toList.drop 23 = dktX3_findPeaks_1 := dk_seg dksX3_findPeaks_0 23 rfl rfl
theorem dksX3_findPeaks_2 : cX3_findPeaks.data.toList.drop 47 = dktX3_findPeaks_2 := dk_seg dksX3_findPeaks_1 24 rfl rfl
theorem dksX3_findPeaks_3 : cX3_findPeaks.data.toList.drop 70 = dktX3_findPeaks_3 := dk_seg dksX3_findPeaks_2 23 rfl rfl
theorem dksX3_findPeaks_4 : cX3_findPeaks.data.toList.drop 94 = dktX3_findPeaks_4 := dk_seg dksX3_findPeaks_3 24 rfl rfl
theorem dX3_findPeaks_0 : decode cX3_findPeaks 0 = .ok (.iconst 0, 1) := dk_3 (dk_at dksX3_findPeaks_0 0 rfl rfl)
theorem dX3_findPeaks_1 : decode cX3_findPeaks 1 = .ok (.istore_n 1, 1) := dk_60 (dk_at dksX3_findPeaks_0 1 rfl rfl)
theorem dX3_findPeaks_2 : decode cX3_findPeaks 2 = .ok (.iconst 0, 1) := dk_3 (dk_at dksX3_findPeaks_0 2 rfl rfl)
theorem dX3_findPeaks_3 : decode cX3_findPeaks 3 = .ok (.istore_n 2, 1) := dk_61 (dk_at dksX3_findPeaks_0 3 rfl rfl)
theorem dX3_findPeaks_4 : decode cX3_findPeaks 4 = .ok (.iconst 0, 1) := dk_3 (dk_at dksX3_findPeaks_0 4 rfl rfl)
theorem dX3_findPeaks_5 : decode cX3_findPeaks 5 = .ok (.istore_n 3, 1) := dk_62 (dk_at dksX3_findPeaks_0 5 rfl rfl)
theorem dX3_findPeaks_6 : decode cX3_findPeaks 6 = .ok (.iconst 0, 1) := dk_3 (dk_at dksX3_findPeaks_0 6 rfl rfl)
theorem dX3_findPeaks_7 : decode cX3_findPeaks 7 = .ok (.istore 4, 2) := dk_54 4 (dk_at dksX3_findPeaks_0 7 rfl rfl)
theorem dX3_findPeaks_9 : decode cX3_findPeaks 9 = .ok (.iload 4, 2) := dk_21 4 (dk_at dksX3_findPeaks_0 9 rfl rfl)
theorem dX3_findPeaks_11 : decode cX3_findPeaks 11 = .ok (.sipush 128, 3) := dk_17 0 128 (dk_at dksX3_findPeaks_0 11 rfl rfl)
theorem dX3_findPeaks_14 : decode cX3_findPeaks 14 = .ok (.if_icmp .ge 76, 3) := dk_162 0 76 (dk_at dksX3_findPeaks_0 14 rfl rfl)
theorem dX3_findPeaks_17 : decode cX3_findPeaks 17 = .ok (.aload_n 0, 1) := dk_42 (dk_at dksX3_findPeaks_0 17 rfl rfl)
theorem dX3_findPeaks_18 : decode cX3_findPeaks 18 = .ok (.iload 4, 2) := dk_21 4 (dk_at dksX3_findPeaks_0 18 rfl rfl)
theorem dX3_findPeaks_20 : decode cX3_findPeaks 20 = .ok (.iaload, 1) := dk_46 (dk_at dksX3_findPeaks_0 20 rfl rfl)
theorem dX3_findPeaks_21 : decode cX3_findPeaks 21 = .ok (.istore 5, 2) := dk_54 5 (dk_at dksX3_findPeaks_0 21 rfl rfl)
theorem dX3_findPeaks_23 : decode cX3_findPeaks 23 = .ok (.iload 5, 2) := dk_21 5 (dk_at dksX3_findPeaks_1 0 rfl rfl)
theorem dX3_findPeaks_25 : decode cX3_findPeaks 25 = .ok (.ifCond .le 7, 3) := dk_158 0 7 (dk_at dksX3_findPeaks_1 2 rfl rfl)
theorem dX3_findPeaks_28 : decode cX3_findPeaks 28 = .ok (.iconst (-1), 1) := dk_2 (dk_at dksX3_findPeaks_1 5 rfl rfl)
theorem dX3_findPeaks_29 : decode cX3_findPeaks 29 = .ok (.goto 4, 3) := dk_167 0 4 (dk_at dksX3_findPeaks_1 6 rfl rfl)
theorem dX3_findPeaks_32 : decode cX3_findPeaks 32 = .ok (.iconst 0, 1) := dk_3 (dk_at dksX3_findPeaks_1 9 rfl rfl)
theorem dX3_findPeaks_33 : decode cX3_findPeaks 33 = .ok (.istore 6, 2) := dk_54 6 (dk_at dksX3_findPeaks_1 10 rfl rfl)
theorem dX3_findPeaks_35 : decode cX3_findPeaks 35 = .ok (.iload 6, 2) := dk_21 6 (dk_at dksX3_findPeaks_1 12 rfl rfl)
theorem dX3_findPeaks_37 : decode cX3_findPeaks 37 = .ok (.iload 5, 2) := dk_21 5 (dk_at dksX3_findPeaks_1 14 rfl rfl)
theorem dX3_findPeaks_39 : decode cX3_findPeaks 39 = .ok (.iand, 1) := dk_126 (dk_at dksX3_findPeaks_1 16 rfl rfl)
theorem dX3_findPeaks_40 : decode cX3_findPeaks 40 = .ok (.iload 6, 2) := dk_21 6 (dk_at dksX3_findPeaks_1 17 rfl rfl)
theorem dX3_findPeaks_42 : decode cX3_findPeaks 42 = .ok (.iconst (-1), 1) := dk_2 (dk_at dksX3_findPeaks_1 19 rfl rfl)
theorem dX3_findPeaks_43 : decode cX3_findPeaks 43 = .ok (.ixor, 1) := dk_130 (dk_at dksX3_findPeaks_1 20 rfl rfl)
theorem dX3_findPeaks_44 : decode cX3_findPeaks 44 = .ok (.iload 5, 2) := dk_21 5 (dk_at dksX3_findPeaks_1 21 rfl rfl)
theorem dX3_findPeaks_46 : decode cX3_findPeaks 46 = .ok (.ineg, 1) := dk_116 (dk_at dksX3_findPeaks_1 23 rfl rfl)
theorem dX3_findPeaks_47 : decode cX3_findPeaks 47 = .ok (.iand, 1) := dk_126 (dk_at dksX3_findPeaks_2 0 rfl rfl)
theorem dX3_findPeaks_48 : decode cX3_findPeaks 48 = .ok (.ior, 1) := dk_128 (dk_at dksX3_findPeaks_2 1 rfl rfl)
theorem dX3_findPeaks_49 : decode cX3_findPeaks 49 = .ok (.istore 7, 2) := dk_54 7 (dk_at dksX3_findPeaks_2 2 rfl rfl)
theorem dX3_findPeaks_51 : decode cX3_findPeaks 51 = .ok (.iload 7, 2) := dk_21 7 (dk_at dksX3_findPeaks_2 4 rfl rfl)
theorem dX3_findPeaks_53 : decode cX3_findPeaks 53 = .ok (.iload_n 1, 1) := dk_27 (dk_at dksX3_findPeaks_2 6 rfl rfl)
theorem dX3_findPeaks_54 : decode cX3_findPeaks 54 = .ok (.if_icmp .le 8, 3) := dk_164 0 8 (dk_at dksX3_findPeaks_2 7 rfl rfl)
theorem dX3_findPeaks_57 : decode cX3_findPeaks 57 = .ok (.iload 5, 2) := dk_21 5 (dk_at dksX3_findPeaks_2 10 rfl rfl)
theorem dX3_findPeaks_59 : decode cX3_findPeaks 59 = .ok (.goto 4, 3) := dk_167 0 4 (dk_at dksX3_findPeaks_2 12 rfl rfl)
theorem dX3_findPeaks_62 : decode cX3_findPeaks 62 = .ok (.iload_n 2, 1) := dk_28 (dk_at dksX3_findPeaks_2 15 rfl rfl)
theorem dX3_findPeaks_63 : decode cX3_findPeaks 63 = .ok (.istore_n 2, 1) := dk_61 (dk_at dksX3_findPeaks_2 16 rfl rfl)
theorem dX3_findPeaks_64 : decode cX3_findPeaks 64 = .ok (.iload 7, 2) := dk_21 7 (dk_at dksX3_findPeaks_2 17 rfl rfl)
theorem dX3_findPeaks_66 : decode cX3_findPeaks 66 = .ok (.iload_n 1, 1) := dk_27 (dk_at dksX3_findPeaks_2 19 rfl rfl)
theorem dX3_findPeaks_67 : decode cX3_findPeaks 67 = .ok (.if_icmp .le 8, 3) := dk_164 0 8 (dk_at dksX3_findPeaks_2 20 rfl rfl)
theorem dX3_findPeaks_70 : decode cX3_findPeaks 70 = .ok (.iload 4, 2) := dk_21 4 (dk_at dksX3_findPeaks_3 0 rfl rfl)
theorem dX3_findPeaks_72 : decode cX3_findPeaks 72 = .ok (.goto 4, 3) := dk_167 0 4 (dk_at dksX3_findPeaks_3 2 rfl rfl)
theorem dX3_findPeaks_75 : decode cX3_findPeaks 75 = .ok (.iload_n 3, 1) := dk_29 (dk_at dksX3_findPeaks_3 5 rfl rfl)
theorem dX3_findPeaks_76 : decode cX3_findPeaks 76 = .ok (.istore_n 3, 1) := dk_62 (dk_at dksX3_findPeaks_3 6 rfl rfl)
theorem dX3_findPeaks_77 : decode cX3_findPeaks 77 = .ok (.iload 7, 2) := dk_21 7 (dk_at dksX3_findPeaks_3 7 rfl rfl)
theorem dX3_findPeaks_79 : decode cX3_findPeaks 79 = .ok (.iload_n 1, 1) := dk_27 (dk_at dksX3_findPeaks_3 9 rfl rfl)
theorem dX3_findPeaks_80 : decode cX3_findPeaks 80 = .ok (.invokestatic 18, 3) := dk_184 0 18 (dk_at dksX3_findPeaks_3 10 rfl rfl)
theorem dX3_findPeaks_83 : decode cX3_findPeaks 83 = .ok (.istore_n 1, 1) := dk_60 (dk_at dksX3_findPeaks_3 13 rfl rfl)
theorem dX3_findPeaks_84 : decode cX3_findPeaks 84 = .ok (.iinc 4 1, 3) := dk_132 4 1 (dk_at dksX3_findPeaks_3 14 rfl rfl)
theorem dX3_findPeaks_87 : decode cX3_findPeaks 87 = .ok (.goto (-78), 3) := dk_167 255 178 (dk_at dksX3_findPeaks_3 17 rfl rfl)
theorem dX3_findPeaks_90 : decode cX3_findPeaks 90 = .ok (.iload_n 2, 1) := dk_28 (dk_at dksX3_findPeaks_3 20 rfl rfl)
theorem dX3_findPeaks_91 : decode cX3_findPeaks 91 = .ok (.ifCond .le 7, 3) := dk_158 0 7 (dk_at dksX3_findPeaks_3 21 rfl rfl)
theorem dX3_findPeaks_94 : decode cX3_findPeaks 94 = .ok (.iconst 1, 1) := dk_4 (dk_at dksX3_findPeaks_4 0 rfl rfl)
theorem dX3_findPeaks_95 : decode cX3_findPeaks 95 = .ok (.goto 4, 3) := dk_167 0 4 (dk_at dksX3_findPeaks_4 1 rfl rfl)
theorem dX3_findPeaks_98 : decode cX3_findPeaks 98 = .ok (.iconst 0, 1) := dk_3 (dk_at dksX3_findPeaks_4 4 rfl rfl)
theorem dX3_findPeaks_99 : decode cX3_findPeaks 99 = .ok (.istore 4, 2) := dk_54 4 (dk_at dksX3_findPeaks_4 5 rfl rfl)
theorem dX3_findPeaks_101 : decode cX3_findPeaks 101 = .ok (.iload_n 3, 1) := dk_29 (dk_at dksX3_findPeaks_4 7 rfl rfl)
theorem dX3_findPeaks_102 : decode cX3_findPeaks 102 = .ok (.sipush 128, 3) := dk_17 0 128 (dk_at dksX3_findPeaks_4 8 rfl rfl)
theorem dX3_findPeaks_105 : decode cX3_findPeaks 105 = .ok (.iload 4, 2) := dk_21 4 (dk_at dksX3_findPeaks_4 11 rfl rfl)
theorem dX3_findPeaks_107 : decode cX3_findPeaks 107 = .ok (.imul, 1) := dk_104 (dk_at dksX3_findPeaks_4 13 rfl rfl)
theorem dX3_findPeaks_108 : decode cX3_findPeaks 108 = .ok (.ior, 1) := dk_128 (dk_at dksX3_findPeaks_4 14 rfl rfl)
theorem dX3_findPeaks_109 : decode cX3_findPeaks 109 = .ok (.istore_n 3, 1) := dk_62 (dk_at dksX3_findPeaks_4 15 rfl rfl)
theorem dX3_findPeaks_110 : decode cX3_findPeaks 110 = .ok (.iload_n 3, 1) := dk_29 (dk_at dksX3_findPeaks_4 16 rfl rfl)
theorem dX3_findPeaks_111 : decode cX3_findPeaks 111 = .ok (.ireturn, 1) := dk_172 (dk_at dksX3_findPeaks_4 17 rfl rfl)
theorem q3 : (Jvm.Cond.initialized "ReedMuller") ∈ lw_all := lw_g (lw_at lw_m0 3 rfl) rfl
theorem q76 : (Jvm.Cond.static ({ cls := "ReedMuller", name := "encode", desc := "([J[BII)V" } : Jvm.MethodName)) ∈ lw_all := lw_g (lw_at lw_m0 76 rfl) rfl
theorem q77 : (Jvm.Cond.code ({ cls := "ReedMuller", name := "encode", desc := "([J[BII)V" } : Jvm.MethodName) prog_4_method_7_code (12 : Nat) (Option.none : Option Jvm.ClassFile.FieldType)) ∈ lw_all := lw_g (lw_at lw_m0 77 rfl) rfl
theorem q78 : (Jvm.Cond.methodLink "ReedMuller" (24 : Nat) ({ cls := "ReedMuller", name := "encodeSub", desc := "([II)V" } : Jvm.MethodName)) ∈ lw_all := lw_g (lw_at lw_m0 78 rfl) rfl
theorem q79 : (Jvm.Cond.static ({ cls := "ReedMuller", name := "encodeSub", desc := "([II)V" } : Jvm.MethodName)) ∈ lw_all := lw_g (lw_at lw_m0 79 rfl) rfl
theorem q80 : (Jvm.Cond.code ({ cls := "ReedMuller", name := "encodeSub", desc := "([II)V" } : Jvm.MethodName) prog_4_method_2_code (3 : Nat) (Option.none : Option Jvm.ClassFile.FieldType)) ∈ lw_all := lw_g (lw_at lw_m0 80 rfl) rfl
theorem q81 : (Jvm.Cond.methodLink "ReedMuller" (7 : Nat) ({ cls := "ReedMuller", name := "Bit0Mask", desc := "(I)I" } : Jvm.MethodName)) ∈ lw_all := lw_g (lw_at lw_m0 81 rfl) rfl
theorem q82 : (Jvm.Cond.static ({ cls := "ReedMuller", name := "Bit0Mask", desc := "(I)I" } : Jvm.MethodName)) ∈ lw_all := lw_g (lw_at lw_m0 82 rfl) rfl
theorem q83 : (Jvm.Cond.code ({ cls := "ReedMuller", name := "Bit0Mask", desc := "(I)I" } : Jvm.MethodName) prog_4_method_6_code (1 : Nat) (Option.some Jvm.ClassFile.FieldType.int)) ∈ lw_all := lw_g (lw_at lw_m0 83 rfl) rfl
theorem q84 : (Jvm.Cond.constant "ReedMuller" (13 : Nat) (-1431655766 : Int32)) ∈ lw_all := lw_g (lw_at lw_m0 84 rfl) rfl
theorem q85 : (Jvm.Cond.constant "ReedMuller" (14 : Nat) (-858993460 : Int32)) ∈ lw_all := lw_g (lw_at lw_m0 85 rfl) rfl
theorem q86 : (Jvm.Cond.constant "ReedMuller" (15 : Nat) (-252645136 : Int32)) ∈ lw_all := lw_g (lw_at lw_m0 86 rfl) rfl
theorem q87 : (Jvm.Cond.constant "ReedMuller" (16 : Nat) (-16711936 : Int32)) ∈ lw_all := lw_g (lw_at lw_m0 87 rfl) rfl
theorem q88 : (Jvm.Cond.constant "ReedMuller" (17 : Nat) (-65536 : Int32)) ∈ lw_all := lw_g (lw_at lw_m0 88 rfl) rfl
theorem q89 : (Jvm.Cond.constantLong "ReedMuller" (28 : Nat) (4294967295 : Int64)) ∈ lw_all := lw_g (lw_at lw_m0 89 rfl) rfl
theorem q112 : (Jvm.Cond.static ({ cls := "ReedMuller", name := "decode", desc := "([B[JII)V" } : Jvm.MethodName)) ∈ lw_all := lw_g (lw_at lw_m0 112 rfl) rfl
theorem q113 : (Jvm.Cond.code ({ cls := "ReedMuller", name := "decode", desc := "([B[JII)V" } : Jvm.MethodName) prog_4_method_8_code (8 : Nat) (Option.none : Option Jvm.ClassFile.FieldType)) ∈ lw_all := lw_g (lw_at lw_m0 113 rfl) rfl
theorem q114 : (Jvm.Cond.methodLink "ReedMuller" (30 : Nat) ({ cls := "Utils", name := "fromLongArrayToByte32Array", desc := "([I[J)V" } : Jvm.MethodName)) ∈ lw_all := lw_g (lw_at lw_m0 114 rfl) rfl
theorem q117 : (Jvm.Cond.methodLink "ReedMuller" (36 : Nat) ({ cls := "ReedMuller", name := "expandThenSum", desc := "([I[III)V" } : Jvm.MethodName)) ∈ lw_all := lw_g (lw_at lw_m0 117 rfl) rfl
theorem q118 : (Jvm.Cond.static ({ cls := "ReedMuller", name := "expandThenSum", desc := "([I[III)V" } : Jvm.MethodName)) ∈ lw_all := lw_g (lw_at lw_m0 118 rfl) rfl
theorem q119 : (Jvm.Cond.code ({ cls := "ReedMuller", name := "expandThenSum", desc := "([I[III)V" } : Jvm.MethodName) prog_4_method_4_code (11 : Nat) (Option.none : Option Jvm.ClassFile.FieldType)) ∈ lw_all := lw_g (lw_at lw_m0 119 rfl) rfl
theorem q120 : (Jvm.Cond.methodLink "ReedMuller" (40 : Nat) ({ cls := "ReedMuller", name := "hadamardTransform", desc := "([I[I)V" } : Jvm.MethodName)) ∈ lw_all := lw_g (lw_at lw_m0 120 rfl) rfl
theorem q121 : (Jvm.Cond.static ({ cls := "ReedMuller", name := "hadamardTransform", desc := "([I[I)V" } : Jvm.MethodName)) ∈ lw_all := lw_g (lw_at lw_m0 121 rfl) rfl
theorem q122 : (Jvm.Cond.code ({ cls := "ReedMuller", name := "hadamardTransform", desc := "([I[I)V" } : Jvm.MethodName) prog_4_method_3_code (6 : Nat) (Option.none : Option Jvm.ClassFile.FieldType)) ∈ lw_all := lw_g (lw_at lw_m0 122 rfl) rfl
theorem q123 : (Jvm.Cond.methodLink "ReedMuller" (44 : Nat) ({ cls := "ReedMuller", name := "findPeaks", desc := "([I)I" } : Jvm.MethodName)) ∈ lw_all := lw_g (lw_at lw_m0 123 rfl) rfl
theorem q124 : (Jvm.Cond.static ({ cls := "ReedMuller", name := "findPeaks", desc := "([I)I" } : Jvm.MethodName)) ∈ lw_all := lw_g (lw_at lw_m0 124 rfl) rfl
theorem q125 : (Jvm.Cond.code ({ cls := "ReedMuller", name := "findPeaks", desc := "([I)I" } : Jvm.MethodName) prog_4_method_5_code (8 : Nat) (Option.some Jvm.ClassFile.FieldType.int)) ∈ lw_all := lw_g (lw_at lw_m0 125 rfl) rfl
theorem q126 : (Jvm.Cond.methodLink "ReedMuller" (18 : Nat) ({ cls := "java/lang/Math", name := "max", desc := "(II)I" } : Jvm.MethodName)) ∈ lw_all := lw_g (lw_at lw_m0 126 rfl) rfl
end
section
/-! InnerCode -/
set_option maxRecDepth 100000
def RX1 : String := "InnerCode"
def TX1 : u_T := fun k => match k with
  | 0 => ("InnerCode", "letters", "[B", true)
  | 1 => ("InnerCode", "word", "[J", true)
  | 2 => ("InnerCode", "read", "[B", true)
  | _ => ("InnerCode", "harmed", "I", false)
def tyX1 : Nat → FieldType := fun k => match k with
  | 0 => .array .byte
  | 1 => .array .long
  | 2 => .array .byte
  | _ => .int
abbrev wsX10 : List Cond := u_ws RX1 TX1 4
theorem nmX1 : ∀ a, a < 4 → ∀ b, b < 4 → a ≠ b → (TX1 a).2.1 ≠ (TX1 b).2.1 := by decide +kernel
theorem tyX1_ok : ∀ k, k < 4 → parseFieldDescriptor (TX1 k).2.2.1 = some (tyX1 k) := by decide +kernel
abbrev cX1_init : ByteArray := prog_1_method_1_code
def yX1_init : MethodName := ⟨RX1, "<init>", "()V"⟩
def dkwX1_init_1 : List UInt8 := [181, 0, 17, 177]
abbrev dktX1_init_1 : List UInt8 := dkwX1_init_1 ++ []
def dkwX1_init_0 : List UInt8 := [42, 183, 0, 1, 42, 7, 188, 8, 181, 0, 9, 42, 16, 24, 188, 11, 181, 0, 13, 42, 7, 188, 8]
abbrev dktX1_init_0 : List UInt8 := dkwX1_init_0 ++ dktX1_init_1
theorem dksX1_init_0 : cX1_init.data.toList.drop 0 = dktX1_init_0 := by decide +kernel
theorem dksX1_init_1 : cX1_init.data.toList.drop 23 = dktX1_init_1 := dk_seg dksX1_init_0 23 rfl rfl
theorem dX1_init_0 : decode cX1_init 0 = .ok (.aload_n 0, 1) := dk_42 (dk_at dksX1_init_0 0 rfl rfl)
theorem dX1_init_1 : decode cX1_init 1 = .ok (.invokespecial 1, 3) := dk_183 0 1 (dk_at dksX1_init_0 1 rfl rfl)
theorem dX1_init_4 : decode cX1_init 4 = .ok (.aload_n 0, 1) := dk_42 (dk_at dksX1_init_0 4 rfl rfl)
theorem dX1_init_5 : decode cX1_init 5 = .ok (.iconst 4, 1) := dk_7 (dk_at dksX1_init_0 5 rfl rfl)
theorem dX1_init_6 : decode cX1_init 6 = .ok (.newarray .byte, 2) := dk_188_8 (dk_at dksX1_init_0 6 rfl rfl)
theorem dX1_init_8 : decode cX1_init 8 = .ok (.putfield 9, 3) := dk_181 0 9 (dk_at dksX1_init_0 8 rfl rfl)
theorem dX1_init_11 : decode cX1_init 11 = .ok (.aload_n 0, 1) := dk_42 (dk_at dksX1_init_0 11 rfl rfl)
theorem dX1_init_12 : decode cX1_init 12 = .ok (.bipush 24, 2) := dk_16 24 (dk_at dksX1_init_0 12 rfl rfl)
theorem dX1_init_14 : decode cX1_init 14 = .ok (.newarray .long, 2) := dk_188_11 (dk_at dksX1_init_0 14 rfl rfl)
theorem dX1_init_16 : decode cX1_init 16 = .ok (.putfield 13, 3) := dk_181 0 13 (dk_at dksX1_init_0 16 rfl rfl)
theorem dX1_init_19 : decode cX1_init 19 = .ok (.aload_n 0, 1) := dk_42 (dk_at dksX1_init_0 19 rfl rfl)
theorem dX1_init_20 : decode cX1_init 20 = .ok (.iconst 4, 1) := dk_7 (dk_at dksX1_init_0 20 rfl rfl)
theorem dX1_init_21 : decode cX1_init 21 = .ok (.newarray .byte, 2) := dk_188_8 (dk_at dksX1_init_0 21 rfl rfl)
theorem dX1_init_23 : decode cX1_init 23 = .ok (.putfield 17, 3) := dk_181 0 17 (dk_at dksX1_init_1 0 rfl rfl)
theorem dX1_init_26 : decode cX1_init 26 = .ok (.return_, 1) := dk_177 (dk_at dksX1_init_1 3 rfl rfl)
abbrev cX1_harm : ByteArray := prog_1_method_4_code
def yX1_harm : MethodName := ⟨RX1, "harm", "(I)Z"⟩
def dkwX1_harm_2 : List UInt8 := [4, 96, 181, 0, 26, 4, 172]
abbrev dktX1_harm_2 : List UInt8 := dkwX1_harm_2 ++ []
def dkwX1_harm_1 : List UInt8 := [61, 42, 180, 0, 13, 28, 16, 6, 122, 92, 47, 10, 28, 16, 63, 126, 121, 131, 80, 42, 89, 180, 0, 26]
abbrev dktX1_harm_1 : List UInt8 := dkwX1_harm_1 ++ dktX1_harm_2
def dkwX1_harm_0 : List UInt8 := [42, 180, 0, 26, 16, 40, 161, 0, 5, 3, 172, 27, 18, 30, 126, 42, 180, 0, 13, 190, 16, 64, 104, 112]
abbrev dktX1_harm_0 : List UInt8 := dkwX1_harm_0 ++ dktX1_harm_1
theorem dksX1_harm_0 : cX1_harm.data.toList.drop 0 = dktX1_harm_0 := by decide +kernel
theorem dksX1_harm_1 : cX1_harm.data.toList.drop 24 = dktX1_harm_1 := dk_seg dksX1_harm_0 24 rfl rfl
theorem dksX1_harm_2 : cX1_harm.data.toList.drop 48 = dktX1_harm_2 := dk_seg dksX1_harm_1 24 rfl rfl
theorem dX1_harm_0 : decode cX1_harm 0 = .ok (.aload_n 0, 1) := dk_42 (dk_at dksX1_harm_0 0 rfl rfl)
theorem dX1_harm_1 : decode cX1_harm 1 = .ok (.getfield 26, 3) := dk_180 0 26 (dk_at dksX1_harm_0 1 rfl rfl)
theorem dX1_harm_4 : decode cX1_harm 4 = .ok (.bipush 40, 2) := dk_16 40 (dk_at dksX1_harm_0 4 rfl rfl)
theorem dX1_harm_6 : decode cX1_harm 6 = .ok (.if_icmp .lt 5, 3) := dk_161 0 5 (dk_at dksX1_harm_0 6 rfl rfl)
theorem dX1_harm_9 : decode cX1_harm 9 = .ok (.iconst 0, 1) := dk_3 (dk_at dksX1_harm_0 9 rfl rfl)
theorem dX1_harm_10 : decode cX1_harm 10 = .ok (.ireturn, 1) := dk_172 (dk_at dksX1_harm_0 10 rfl rfl)
theorem dX1_harm_11 : decode cX1_harm 11 = .ok (.iload_n 1, 1) := dk_27 (dk_at dksX1_harm_0 11 rfl rfl)
theorem dX1_harm_12 : decode cX1_harm 12 = .ok (.ldc 30, 2) := dk_18 30 (dk_at dksX1_harm_0 12 rfl rfl)
theorem dX1_harm_14 : decode cX1_harm 14 = .ok (.iand, 1) := dk_126 (dk_at dksX1_harm_0 14 rfl rfl)
theorem dX1_harm_15 : decode cX1_harm 15 = .ok (.aload_n 0, 1) := dk_42 (dk_at dksX1_harm_0 15 rfl rfl)
theorem dX1_harm_16 : decode cX1_harm 16 = .ok (.getfield 13, 3) := dk_180 0 13 (dk_at dksX1_harm_0 16 rfl rfl)
theorem dX1_harm_19 : decode cX1_harm 19 = .ok (.arraylength, 1) := dk_190 (dk_at dksX1_harm_0 19 rfl rfl)
theorem dX1_harm_20 : decode cX1_harm 20 = .ok (.bipush 64, 2) := dk_16 64 (dk_at dksX1_harm_0 20 rfl rfl)
theorem dX1_harm_22 : decode cX1_harm 22 = .ok (.imul, 1) := dk_104 (dk_at dksX1_harm_0 22 rfl rfl)
theorem dX1_harm_23 : decode cX1_harm 23 = .ok (.irem, 1) := dk_112 (dk_at dksX1_harm_0 23 rfl rfl)
theorem dX1_harm_24 : decode cX1_harm 24 = .ok (.istore_n 2, 1) := dk_61 (dk_at dksX1_harm_1 0 rfl rfl)
theorem dX1_harm_25 : decode cX1_harm 25 = .ok (.aload_n 0, 1) := dk_42 (dk_at dksX1_harm_1 1 rfl rfl)
theorem dX1_harm_26 : decode cX1_harm 26 = .ok (.getfield 13, 3) := dk_180 0 13 (dk_at dksX1_harm_1 2 rfl rfl)
theorem dX1_harm_29 : decode cX1_harm 29 = .ok (.iload_n 2, 1) := dk_28 (dk_at dksX1_harm_1 5 rfl rfl)
theorem dX1_harm_30 : decode cX1_harm 30 = .ok (.bipush 6, 2) := dk_16 6 (dk_at dksX1_harm_1 6 rfl rfl)
theorem dX1_harm_32 : decode cX1_harm 32 = .ok (.ishr, 1) := dk_122 (dk_at dksX1_harm_1 8 rfl rfl)
theorem dX1_harm_33 : decode cX1_harm 33 = .ok (.dup2, 1) := dk_92 (dk_at dksX1_harm_1 9 rfl rfl)
theorem dX1_harm_34 : decode cX1_harm 34 = .ok (.laload, 1) := dk_47 (dk_at dksX1_harm_1 10 rfl rfl)
theorem dX1_harm_35 : decode cX1_harm 35 = .ok (.lconst 1, 1) := dk_10 (dk_at dksX1_harm_1 11 rfl rfl)
theorem dX1_harm_36 : decode cX1_harm 36 = .ok (.iload_n 2, 1) := dk_28 (dk_at dksX1_harm_1 12 rfl rfl)
theorem dX1_harm_37 : decode cX1_harm 37 = .ok (.bipush 63, 2) := dk_16 63 (dk_at dksX1_harm_1 13 rfl rfl)
theorem dX1_harm_39 : decode cX1_harm 39 = .ok (.iand, 1) := dk_126 (dk_at dksX1_harm_1 15 rfl rfl)
theorem dX1_harm_40 : decode cX1_harm 40 = .ok (.lshl, 1) := dk_121 (dk_at dksX1_harm_1 16 rfl rfl)
theorem dX1_harm_41 : decode cX1_harm 41 = .ok (.lxor, 1) := dk_131 (dk_at dksX1_harm_1 17 rfl rfl)
theorem dX1_harm_42 : decode cX1_harm 42 = .ok (.lastore, 1) := dk_80 (dk_at dksX1_harm_1 18 rfl rfl)
theorem dX1_harm_43 : decode cX1_harm 43 = .ok (.aload_n 0, 1) := dk_42 (dk_at dksX1_harm_1 19 rfl rfl)
theorem dX1_harm_44 : decode cX1_harm 44 = .ok (.dup, 1) := dk_89 (dk_at dksX1_harm_1 20 rfl rfl)
theorem dX1_harm_45 : decode cX1_harm 45 = .ok (.getfield 26, 3) := dk_180 0 26 (dk_at dksX1_harm_1 21 rfl rfl)
theorem dX1_harm_48 : decode cX1_harm 48 = .ok (.iconst 1, 1) := dk_4 (dk_at dksX1_harm_2 0 rfl rfl)
theorem dX1_harm_49 : decode cX1_harm 49 = .ok (.iadd, 1) := dk_96 (dk_at dksX1_harm_2 1 rfl rfl)
theorem dX1_harm_50 : decode cX1_harm 50 = .ok (.putfield 26, 3) := dk_181 0 26 (dk_at dksX1_harm_2 2 rfl rfl)
theorem dX1_harm_53 : decode cX1_harm 53 = .ok (.iconst 1, 1) := dk_4 (dk_at dksX1_harm_2 5 rfl rfl)
theorem dX1_harm_54 : decode cX1_harm 54 = .ok (.ireturn, 1) := dk_172 (dk_at dksX1_harm_2 6 rfl rfl)
abbrev cX1_write : ByteArray := prog_1_method_3_code
def yX1_write : MethodName := ⟨RX1, "write", "()V"⟩
def dkwX1_write_1 : List UInt8 := [42, 180, 0, 13, 42, 180, 0, 9, 7, 6, 184, 0, 20, 42, 3, 181, 0, 26, 177]
abbrev dktX1_write_1 : List UInt8 := dkwX1_write_1 ++ []
def dkwX1_write_0 : List UInt8 := [3, 60, 27, 42, 180, 0, 13, 190, 162, 0, 16, 42, 180, 0, 13, 27, 9, 80, 132, 1, 1, 167, 255, 237]
abbrev dktX1_write_0 : List UInt8 := dkwX1_write_0 ++ dktX1_write_1
theorem dksX1_write_0 : cX1_write.data.toList.drop 0 = dktX1_write_0 := by decide +kernel
theorem dksX1_write_1 : cX1_write.data.toList.drop 24 = dktX1_write_1 := dk_seg dksX1_write_0 24 rfl rfl
theorem dX1_write_0 : decode cX1_write 0 = .ok (.iconst 0, 1) := dk_3 (dk_at dksX1_write_0 0 rfl rfl)
theorem dX1_write_1 : decode cX1_write 1 = .ok (.istore_n 1, 1) := dk_60 (dk_at dksX1_write_0 1 rfl rfl)
theorem dX1_write_2 : decode cX1_write 2 = .ok (.iload_n 1, 1) := dk_27 (dk_at dksX1_write_0 2 rfl rfl)
theorem dX1_write_3 : decode cX1_write 3 = .ok (.aload_n 0, 1) := dk_42 (dk_at dksX1_write_0 3 rfl rfl)
theorem dX1_write_4 : decode cX1_write 4 = .ok (.getfield 13, 3) := dk_180 0 13 (dk_at dksX1_write_0 4 rfl rfl)
theorem dX1_write_7 : decode cX1_write 7 = .ok (.arraylength, 1) := dk_190 (dk_at dksX1_write_0 7 rfl rfl)
theorem dX1_write_8 : decode cX1_write 8 = .ok (.if_icmp .ge 16, 3) := dk_162 0 16 (dk_at dksX1_write_0 8 rfl rfl)
theorem dX1_write_11 : decode cX1_write 11 = .ok (.aload_n 0, 1) := dk_42 (dk_at dksX1_write_0 11 rfl rfl)
theorem dX1_write_12 : decode cX1_write 12 = .ok (.getfield 13, 3) := dk_180 0 13 (dk_at dksX1_write_0 12 rfl rfl)
theorem dX1_write_15 : decode cX1_write 15 = .ok (.iload_n 1, 1) := dk_27 (dk_at dksX1_write_0 15 rfl rfl)
theorem dX1_write_16 : decode cX1_write 16 = .ok (.lconst 0, 1) := dk_9 (dk_at dksX1_write_0 16 rfl rfl)
theorem dX1_write_17 : decode cX1_write 17 = .ok (.lastore, 1) := dk_80 (dk_at dksX1_write_0 17 rfl rfl)
theorem dX1_write_18 : decode cX1_write 18 = .ok (.iinc 1 1, 3) := dk_132 1 1 (dk_at dksX1_write_0 18 rfl rfl)
theorem dX1_write_21 : decode cX1_write 21 = .ok (.goto (-19), 3) := dk_167 255 237 (dk_at dksX1_write_0 21 rfl rfl)
theorem dX1_write_24 : decode cX1_write 24 = .ok (.aload_n 0, 1) := dk_42 (dk_at dksX1_write_1 0 rfl rfl)
theorem dX1_write_25 : decode cX1_write 25 = .ok (.getfield 13, 3) := dk_180 0 13 (dk_at dksX1_write_1 1 rfl rfl)
theorem dX1_write_28 : decode cX1_write 28 = .ok (.aload_n 0, 1) := dk_42 (dk_at dksX1_write_1 4 rfl rfl)
theorem dX1_write_29 : decode cX1_write 29 = .ok (.getfield 9, 3) := dk_180 0 9 (dk_at dksX1_write_1 5 rfl rfl)
theorem dX1_write_32 : decode cX1_write 32 = .ok (.iconst 4, 1) := dk_7 (dk_at dksX1_write_1 8 rfl rfl)
theorem dX1_write_33 : decode cX1_write 33 = .ok (.iconst 3, 1) := dk_6 (dk_at dksX1_write_1 9 rfl rfl)
theorem dX1_write_34 : decode cX1_write 34 = .ok (.invokestatic 20, 3) := dk_184 0 20 (dk_at dksX1_write_1 10 rfl rfl)
theorem dX1_write_37 : decode cX1_write 37 = .ok (.aload_n 0, 1) := dk_42 (dk_at dksX1_write_1 13 rfl rfl)
theorem dX1_write_38 : decode cX1_write 38 = .ok (.iconst 0, 1) := dk_3 (dk_at dksX1_write_1 14 rfl rfl)
theorem dX1_write_39 : decode cX1_write 39 = .ok (.putfield 26, 3) := dk_181 0 26 (dk_at dksX1_write_1 15 rfl rfl)
theorem dX1_write_42 : decode cX1_write 42 = .ok (.return_, 1) := dk_177 (dk_at dksX1_write_1 18 rfl rfl)
abbrev cX1_letter : ByteArray := prog_1_method_2_code
def yX1_letter : MethodName := ⟨RX1, "letter", "(II)V"⟩
def dkwX1_letter_0 : List UInt8 := [42, 180, 0, 9, 27, 6, 126, 28, 145, 84, 177]
abbrev dktX1_letter_0 : List UInt8 := dkwX1_letter_0 ++ []
theorem dksX1_letter_0 : cX1_letter.data.toList.drop 0 = dktX1_letter_0 := by decide +kernel
theorem dX1_letter_0 : decode cX1_letter 0 = .ok (.aload_n 0, 1) := dk_42 (dk_at dksX1_letter_0 0 rfl rfl)
theorem dX1_letter_1 : decode cX1_letter 1 = .ok (.getfield 9, 3) := dk_180 0 9 (dk_at dksX1_letter_0 1 rfl rfl)
theorem dX1_letter_4 : decode cX1_letter 4 = .ok (.iload_n 1, 1) := dk_27 (dk_at dksX1_letter_0 4 rfl rfl)
theorem dX1_letter_5 : decode cX1_letter 5 = .ok (.iconst 3, 1) := dk_6 (dk_at dksX1_letter_0 5 rfl rfl)
theorem dX1_letter_6 : decode cX1_letter 6 = .ok (.iand, 1) := dk_126 (dk_at dksX1_letter_0 6 rfl rfl)
theorem dX1_letter_7 : decode cX1_letter 7 = .ok (.iload_n 2, 1) := dk_28 (dk_at dksX1_letter_0 7 rfl rfl)
theorem dX1_letter_8 : decode cX1_letter 8 = .ok (.i2b, 1) := dk_145 (dk_at dksX1_letter_0 8 rfl rfl)
theorem dX1_letter_9 : decode cX1_letter 9 = .ok (.bastore, 1) := dk_84 (dk_at dksX1_letter_0 9 rfl rfl)
theorem dX1_letter_10 : decode cX1_letter 10 = .ok (.return_, 1) := dk_177 (dk_at dksX1_letter_0 10 rfl rfl)
abbrev cX1_bit : ByteArray := prog_1_method_5_code
def yX1_bit : MethodName := ⟨RX1, "bit", "(I)I"⟩
def dkwX1_bit_1 : List UInt8 := [16, 63, 126, 125, 136, 4, 126, 172]
abbrev dktX1_bit_1 : List UInt8 := dkwX1_bit_1 ++ []
def dkwX1_bit_0 : List UInt8 := [27, 18, 30, 126, 42, 180, 0, 13, 190, 16, 64, 104, 112, 61, 42, 180, 0, 13, 28, 16, 6, 122, 47, 28]
abbrev dktX1_bit_0 : List UInt8 := dkwX1_bit_0 ++ dktX1_bit_1
theorem dksX1_bit_0 : cX1_bit.data.toList.drop 0 = dktX1_bit_0 := by decide +kernel
theorem dksX1_bit_1 : cX1_bit.data.toList.drop 24 = dktX1_bit_1 := dk_seg dksX1_bit_0 24 rfl rfl
theorem dX1_bit_0 : decode cX1_bit 0 = .ok (.iload_n 1, 1) := dk_27 (dk_at dksX1_bit_0 0 rfl rfl)
theorem dX1_bit_1 : decode cX1_bit 1 = .ok (.ldc 30, 2) := dk_18 30 (dk_at dksX1_bit_0 1 rfl rfl)
theorem dX1_bit_3 : decode cX1_bit 3 = .ok (.iand, 1) := dk_126 (dk_at dksX1_bit_0 3 rfl rfl)
theorem dX1_bit_4 : decode cX1_bit 4 = .ok (.aload_n 0, 1) := dk_42 (dk_at dksX1_bit_0 4 rfl rfl)
theorem dX1_bit_5 : decode cX1_bit 5 = .ok (.getfield 13, 3) := dk_180 0 13 (dk_at dksX1_bit_0 5 rfl rfl)
theorem dX1_bit_8 : decode cX1_bit 8 = .ok (.arraylength, 1) := dk_190 (dk_at dksX1_bit_0 8 rfl rfl)
theorem dX1_bit_9 : decode cX1_bit 9 = .ok (.bipush 64, 2) := dk_16 64 (dk_at dksX1_bit_0 9 rfl rfl)
theorem dX1_bit_11 : decode cX1_bit 11 = .ok (.imul, 1) := dk_104 (dk_at dksX1_bit_0 11 rfl rfl)
theorem dX1_bit_12 : decode cX1_bit 12 = .ok (.irem, 1) := dk_112 (dk_at dksX1_bit_0 12 rfl rfl)
theorem dX1_bit_13 : decode cX1_bit 13 = .ok (.istore_n 2, 1) := dk_61 (dk_at dksX1_bit_0 13 rfl rfl)
theorem dX1_bit_14 : decode cX1_bit 14 = .ok (.aload_n 0, 1) := dk_42 (dk_at dksX1_bit_0 14 rfl rfl)
theorem dX1_bit_15 : decode cX1_bit 15 = .ok (.getfield 13, 3) := dk_180 0 13 (dk_at dksX1_bit_0 15 rfl rfl)
theorem dX1_bit_18 : decode cX1_bit 18 = .ok (.iload_n 2, 1) := dk_28 (dk_at dksX1_bit_0 18 rfl rfl)
theorem dX1_bit_19 : decode cX1_bit 19 = .ok (.bipush 6, 2) := dk_16 6 (dk_at dksX1_bit_0 19 rfl rfl)
theorem dX1_bit_21 : decode cX1_bit 21 = .ok (.ishr, 1) := dk_122 (dk_at dksX1_bit_0 21 rfl rfl)
theorem dX1_bit_22 : decode cX1_bit 22 = .ok (.laload, 1) := dk_47 (dk_at dksX1_bit_0 22 rfl rfl)
theorem dX1_bit_23 : decode cX1_bit 23 = .ok (.iload_n 2, 1) := dk_28 (dk_at dksX1_bit_0 23 rfl rfl)
theorem dX1_bit_24 : decode cX1_bit 24 = .ok (.bipush 63, 2) := dk_16 63 (dk_at dksX1_bit_1 0 rfl rfl)
theorem dX1_bit_26 : decode cX1_bit 26 = .ok (.iand, 1) := dk_126 (dk_at dksX1_bit_1 2 rfl rfl)
theorem dX1_bit_27 : decode cX1_bit 27 = .ok (.lushr, 1) := dk_125 (dk_at dksX1_bit_1 3 rfl rfl)
theorem dX1_bit_28 : decode cX1_bit 28 = .ok (.l2i, 1) := dk_136 (dk_at dksX1_bit_1 4 rfl rfl)
theorem dX1_bit_29 : decode cX1_bit 29 = .ok (.iconst 1, 1) := dk_4 (dk_at dksX1_bit_1 5 rfl rfl)
theorem dX1_bit_30 : decode cX1_bit 30 = .ok (.iand, 1) := dk_126 (dk_at dksX1_bit_1 6 rfl rfl)
theorem dX1_bit_31 : decode cX1_bit 31 = .ok (.ireturn, 1) := dk_172 (dk_at dksX1_bit_1 7 rfl rfl)
abbrev cX1_read : ByteArray := prog_1_method_6_code
def yX1_read : MethodName := ⟨RX1, "read", "()I"⟩
def dkwX1_read_3 : List UInt8 := [167, 255, 232, 28, 172]
abbrev dktX1_read_3 : List UInt8 := dkwX1_read_3 ++ []
def dkwX1_read_2 : List UInt8 := [162, 0, 25, 28, 16, 8, 120, 42, 180, 0, 17, 29, 51, 17, 0, 255, 126, 128, 61, 132, 3, 1]
abbrev dktX1_read_2 : List UInt8 := dkwX1_read_2 ++ dktX1_read_3
def dkwX1_read_1 : List UInt8 := [80, 132, 2, 1, 167, 255, 238, 42, 180, 0, 17, 43, 7, 6, 184, 0, 31, 3, 61, 3, 62, 29, 7]
abbrev dktX1_read_1 : List UInt8 := dkwX1_read_1 ++ dktX1_read_2
def dkwX1_read_0 : List UInt8 := [42, 180, 0, 13, 190, 188, 11, 76, 3, 61, 28, 43, 190, 162, 0, 18, 43, 28, 42, 180, 0, 13, 28, 47]
abbrev dktX1_read_0 : List UInt8 := dkwX1_read_0 ++ dktX1_read_1
theorem dksX1_read_0 : cX1_read.data.toList.drop 0 = dktX1_read_0 := by decide +kernel
theorem dksX1_read_1 : cX1_read.data.toList.drop 24 = dktX1_read_1 := dk_seg dksX1_read_0 24 rfl rfl
theorem dksX1_read_2 : cX1_read.data.toList.drop 47 = dktX1_read_2 := dk_seg dksX1_read_1 23 rfl rfl
theorem dksX1_read_3 : cX1_read.data.toList.drop 69 = dktX1_read_3 := dk_seg dksX1_read_2 22 rfl rfl
theorem dX1_read_0 : decode cX1_read 0 = .ok (.aload_n 0, 1) := dk_42 (dk_at dksX1_read_0 0 rfl rfl)
theorem dX1_read_1 : decode cX1_read 1 = .ok (.getfield 13, 3) := dk_180 0 13 (dk_at dksX1_read_0 1 rfl rfl)
theorem dX1_read_4 : decode cX1_read 4 = .ok (.arraylength, 1) := dk_190 (dk_at dksX1_read_0 4 rfl rfl)
theorem dX1_read_5 : decode cX1_read 5 = .ok (.newarray .long, 2) := dk_188_11 (dk_at dksX1_read_0 5 rfl rfl)
theorem dX1_read_7 : decode cX1_read 7 = .ok (.astore_n 1, 1) := dk_76 (dk_at dksX1_read_0 7 rfl rfl)
theorem dX1_read_8 : decode cX1_read 8 = .ok (.iconst 0, 1) := dk_3 (dk_at dksX1_read_0 8 rfl rfl)
theorem dX1_read_9 : decode cX1_read 9 = .ok (.istore_n 2, 1) := dk_61 (dk_at dksX1_read_0 9 rfl rfl)
theorem dX1_read_10 : decode cX1_read 10 = .ok (.iload_n 2, 1) := dk_28 (dk_at dksX1_read_0 10 rfl rfl)
theorem dX1_read_11 : decode cX1_read 11 = .ok (.aload_n 1, 1) := dk_43 (dk_at dksX1_read_0 11 rfl rfl)
theorem dX1_read_12 : decode cX1_read 12 = .ok (.arraylength, 1) := dk_190 (dk_at dksX1_read_0 12 rfl rfl)
theorem dX1_read_13 : decode cX1_read 13 = .ok (.if_icmp .ge 18, 3) := dk_162 0 18 (dk_at dksX1_read_0 13 rfl rfl)
theorem dX1_read_16 : decode cX1_read 16 = .ok (.aload_n 1, 1) := dk_43 (dk_at dksX1_read_0 16 rfl rfl)
theorem dX1_read_17 : decode cX1_read 17 = .ok (.iload_n 2, 1) := dk_28 (dk_at dksX1_read_0 17 rfl rfl)
theorem dX1_read_18 : decode cX1_read 18 = .ok (.aload_n 0, 1) := dk_42 (dk_at dksX1_read_0 18 rfl rfl)
theorem dX1_read_19 : decode cX1_read 19 = .ok (.getfield 13, 3) := dk_180 0 13 (dk_at dksX1_read_0 19 rfl rfl)
theorem dX1_read_22 : decode cX1_read 22 = .ok (.iload_n 2, 1) := dk_28 (dk_at dksX1_read_0 22 rfl rfl)
theorem dX1_read_23 : decode cX1_read 23 = .ok (.laload, 1) := dk_47 (dk_at dksX1_read_0 23 rfl rfl)
theorem dX1_read_24 : decode cX1_read 24 = .ok (.lastore, 1) := dk_80 (dk_at dksX1_read_1 0 rfl rfl)
theorem dX1_read_25 : decode cX1_read 25 = .ok (.iinc 2 1, 3) := dk_132 2 1 (dk_at dksX1_read_1 1 rfl rfl)
theorem dX1_read_28 : decode cX1_read 28 = .ok (.goto (-18), 3) := dk_167 255 238 (dk_at dksX1_read_1 4 rfl rfl)
theorem dX1_read_31 : decode cX1_read 31 = .ok (.aload_n 0, 1) := dk_42 (dk_at dksX1_read_1 7 rfl rfl)
theorem dX1_read_32 : decode cX1_read 32 = .ok (.getfield 17, 3) := dk_180 0 17 (dk_at dksX1_read_1 8 rfl rfl)
theorem dX1_read_35 : decode cX1_read 35 = .ok (.aload_n 1, 1) := dk_43 (dk_at dksX1_read_1 11 rfl rfl)
theorem dX1_read_36 : decode cX1_read 36 = .ok (.iconst 4, 1) := dk_7 (dk_at dksX1_read_1 12 rfl rfl)
theorem dX1_read_37 : decode cX1_read 37 = .ok (.iconst 3, 1) := dk_6 (dk_at dksX1_read_1 13 rfl rfl)
theorem dX1_read_38 : decode cX1_read 38 = .ok (.invokestatic 31, 3) := dk_184 0 31 (dk_at dksX1_read_1 14 rfl rfl)
theorem dX1_read_41 : decode cX1_read 41 = .ok (.iconst 0, 1) := dk_3 (dk_at dksX1_read_1 17 rfl rfl)
theorem dX1_read_42 : decode cX1_read 42 = .ok (.istore_n 2, 1) := dk_61 (dk_at dksX1_read_1 18 rfl rfl)
theorem dX1_read_43 : decode cX1_read 43 = .ok (.iconst 0, 1) := dk_3 (dk_at dksX1_read_1 19 rfl rfl)
theorem dX1_read_44 : decode cX1_read 44 = .ok (.istore_n 3, 1) := dk_62 (dk_at dksX1_read_1 20 rfl rfl)
theorem dX1_read_45 : decode cX1_read 45 = .ok (.iload_n 3, 1) := dk_29 (dk_at dksX1_read_1 21 rfl rfl)
theorem dX1_read_46 : decode cX1_read 46 = .ok (.iconst 4, 1) := dk_7 (dk_at dksX1_read_1 22 rfl rfl)
theorem dX1_read_47 : decode cX1_read 47 = .ok (.if_icmp .ge 25, 3) := dk_162 0 25 (dk_at dksX1_read_2 0 rfl rfl)
theorem dX1_read_50 : decode cX1_read 50 = .ok (.iload_n 2, 1) := dk_28 (dk_at dksX1_read_2 3 rfl rfl)
theorem dX1_read_51 : decode cX1_read 51 = .ok (.bipush 8, 2) := dk_16 8 (dk_at dksX1_read_2 4 rfl rfl)
theorem dX1_read_53 : decode cX1_read 53 = .ok (.ishl, 1) := dk_120 (dk_at dksX1_read_2 6 rfl rfl)
theorem dX1_read_54 : decode cX1_read 54 = .ok (.aload_n 0, 1) := dk_42 (dk_at dksX1_read_2 7 rfl rfl)
theorem dX1_read_55 : decode cX1_read 55 = .ok (.getfield 17, 3) := dk_180 0 17 (dk_at dksX1_read_2 8 rfl rfl)
theorem dX1_read_58 : decode cX1_read 58 = .ok (.iload_n 3, 1) := dk_29 (dk_at dksX1_read_2 11 rfl rfl)
theorem dX1_read_59 : decode cX1_read 59 = .ok (.baload, 1) := dk_51 (dk_at dksX1_read_2 12 rfl rfl)
theorem dX1_read_60 : decode cX1_read 60 = .ok (.sipush 255, 3) := dk_17 0 255 (dk_at dksX1_read_2 13 rfl rfl)
theorem dX1_read_63 : decode cX1_read 63 = .ok (.iand, 1) := dk_126 (dk_at dksX1_read_2 16 rfl rfl)
theorem dX1_read_64 : decode cX1_read 64 = .ok (.ior, 1) := dk_128 (dk_at dksX1_read_2 17 rfl rfl)
theorem dX1_read_65 : decode cX1_read 65 = .ok (.istore_n 2, 1) := dk_61 (dk_at dksX1_read_2 18 rfl rfl)
theorem dX1_read_66 : decode cX1_read 66 = .ok (.iinc 3 1, 3) := dk_132 3 1 (dk_at dksX1_read_2 19 rfl rfl)
theorem dX1_read_69 : decode cX1_read 69 = .ok (.goto (-24), 3) := dk_167 255 232 (dk_at dksX1_read_3 0 rfl rfl)
theorem dX1_read_72 : decode cX1_read 72 = .ok (.iload_n 2, 1) := dk_28 (dk_at dksX1_read_3 3 rfl rfl)
theorem dX1_read_73 : decode cX1_read 73 = .ok (.ireturn, 1) := dk_172 (dk_at dksX1_read_3 4 rfl rfl)
abbrev cX1_letter_2 : ByteArray := prog_1_method_7_code
def yX1_letter_2 : MethodName := ⟨RX1, "letter", "(I)I"⟩
def dkwX1_letter_2_0 : List UInt8 := [42, 180, 0, 9, 27, 6, 126, 51, 17, 0, 255, 126, 172]
abbrev dktX1_letter_2_0 : List UInt8 := dkwX1_letter_2_0 ++ []
theorem dksX1_letter_2_0 : cX1_letter_2.data.toList.drop 0 = dktX1_letter_2_0 := by decide +kernel
theorem dX1_letter_2_0 : decode cX1_letter_2 0 = .ok (.aload_n 0, 1) := dk_42 (dk_at dksX1_letter_2_0 0 rfl rfl)
theorem dX1_letter_2_1 : decode cX1_letter_2 1 = .ok (.getfield 9, 3) := dk_180 0 9 (dk_at dksX1_letter_2_0 1 rfl rfl)
theorem dX1_letter_2_4 : decode cX1_letter_2 4 = .ok (.iload_n 1, 1) := dk_27 (dk_at dksX1_letter_2_0 4 rfl rfl)
theorem dX1_letter_2_5 : decode cX1_letter_2 5 = .ok (.iconst 3, 1) := dk_6 (dk_at dksX1_letter_2_0 5 rfl rfl)
theorem dX1_letter_2_6 : decode cX1_letter_2 6 = .ok (.iand, 1) := dk_126 (dk_at dksX1_letter_2_0 6 rfl rfl)
theorem dX1_letter_2_7 : decode cX1_letter_2 7 = .ok (.baload, 1) := dk_51 (dk_at dksX1_letter_2_0 7 rfl rfl)
theorem dX1_letter_2_8 : decode cX1_letter_2 8 = .ok (.sipush 255, 3) := dk_17 0 255 (dk_at dksX1_letter_2_0 8 rfl rfl)
theorem dX1_letter_2_11 : decode cX1_letter_2 11 = .ok (.iand, 1) := dk_126 (dk_at dksX1_letter_2_0 11 rfl rfl)
theorem dX1_letter_2_12 : decode cX1_letter_2 12 = .ok (.ireturn, 1) := dk_172 (dk_at dksX1_letter_2_0 12 rfl rfl)
theorem q1 : (Jvm.Cond.initialized "InnerCode") ∈ lw_all := lw_g (lw_at lw_m0 1 rfl) rfl
theorem q7 : (Jvm.Cond.instantiable "InnerCode" (4 : Nat)) ∈ lw_all := lw_g (lw_at lw_m0 7 rfl) rfl
theorem q9 : (Jvm.Cond.instanceMethod ({ cls := "InnerCode", name := "<init>", desc := "()V" } : Jvm.MethodName)) ∈ lw_all := lw_g (lw_at lw_m0 9 rfl) rfl
theorem q10 : (Jvm.Cond.code ({ cls := "InnerCode", name := "<init>", desc := "()V" } : Jvm.MethodName) prog_1_method_1_code (1 : Nat) (Option.none : Option Jvm.ClassFile.FieldType)) ∈ lw_all := lw_g (lw_at lw_m0 10 rfl) rfl
theorem q11 : (Jvm.Cond.methodLink "InnerCode" (1 : Nat) ({ cls := "java/lang/Object", name := "<init>", desc := "()V" } : Jvm.MethodName)) ∈ lw_all := lw_g (lw_at lw_m0 11 rfl) rfl
theorem q14 : (Jvm.Cond.fieldLink "InnerCode" (9 : Nat) "InnerCode" "letters" "[B") ∈ lw_all := lw_g (lw_at lw_m0 14 rfl) rfl
theorem q15 : (Jvm.Cond.fieldLink "InnerCode" (13 : Nat) "InnerCode" "word" "[J") ∈ lw_all := lw_g (lw_at lw_m0 15 rfl) rfl
theorem q16 : (Jvm.Cond.fieldLink "InnerCode" (17 : Nat) "InnerCode" "read" "[B") ∈ lw_all := lw_g (lw_at lw_m0 16 rfl) rfl
theorem q17 : (Jvm.Cond.fieldLink "InnerCode" (26 : Nat) "InnerCode" "harmed" "I") ∈ lw_all := lw_g (lw_at lw_m0 17 rfl) rfl
theorem q18 : (Jvm.Cond.laysFinal "InnerCode" "InnerCode" "letters" "[B") ∈ lw_all := lw_g (lw_at lw_m0 18 rfl) rfl
theorem q19 : (Jvm.Cond.soleField "InnerCode" "letters") ∈ lw_all := lw_g (lw_at lw_m0 19 rfl) rfl
theorem q20 : (Jvm.Cond.laysFinal "InnerCode" "InnerCode" "word" "[J") ∈ lw_all := lw_g (lw_at lw_m0 20 rfl) rfl
theorem q21 : (Jvm.Cond.soleField "InnerCode" "word") ∈ lw_all := lw_g (lw_at lw_m0 21 rfl) rfl
theorem q22 : (Jvm.Cond.laysFinal "InnerCode" "InnerCode" "read" "[B") ∈ lw_all := lw_g (lw_at lw_m0 22 rfl) rfl
theorem q23 : (Jvm.Cond.soleField "InnerCode" "read") ∈ lw_all := lw_g (lw_at lw_m0 23 rfl) rfl
theorem q24 : (Jvm.Cond.lays "InnerCode" "InnerCode" "harmed" "I") ∈ lw_all := lw_g (lw_at lw_m0 24 rfl) rfl
theorem q25 : (Jvm.Cond.soleField "InnerCode" "harmed") ∈ lw_all := lw_g (lw_at lw_m0 25 rfl) rfl
theorem q26 : (Jvm.Cond.superclass "InnerCode" "java/lang/Object") ∈ lw_all := lw_g (lw_at lw_m0 26 rfl) rfl
theorem q30 : (Jvm.Cond.instanceMethod ({ cls := "InnerCode", name := "harm", desc := "(I)Z" } : Jvm.MethodName)) ∈ lw_all := lw_g (lw_at lw_m0 30 rfl) rfl
theorem q31 : (Jvm.Cond.selects "InnerCode" ({ cls := "InnerCode", name := "harm", desc := "(I)Z" } : Jvm.MethodName) ({ cls := "InnerCode", name := "harm", desc := "(I)Z" } : Jvm.MethodName)) ∈ lw_all := lw_g (lw_at lw_m0 31 rfl) rfl
theorem q32 : (Jvm.Cond.code ({ cls := "InnerCode", name := "harm", desc := "(I)Z" } : Jvm.MethodName) prog_1_method_4_code (3 : Nat) (Option.some Jvm.ClassFile.FieldType.boolean)) ∈ lw_all := lw_g (lw_at lw_m0 32 rfl) rfl
theorem q33 : (Jvm.Cond.constant "InnerCode" (30 : Nat) (2147483647 : Int32)) ∈ lw_all := lw_g (lw_at lw_m0 33 rfl) rfl
theorem q72 : (Jvm.Cond.instanceMethod ({ cls := "InnerCode", name := "write", desc := "()V" } : Jvm.MethodName)) ∈ lw_all := lw_g (lw_at lw_m0 72 rfl) rfl
theorem q73 : (Jvm.Cond.selects "InnerCode" ({ cls := "InnerCode", name := "write", desc := "()V" } : Jvm.MethodName) ({ cls := "InnerCode", name := "write", desc := "()V" } : Jvm.MethodName)) ∈ lw_all := lw_g (lw_at lw_m0 73 rfl) rfl
theorem q74 : (Jvm.Cond.code ({ cls := "InnerCode", name := "write", desc := "()V" } : Jvm.MethodName) prog_1_method_3_code (2 : Nat) (Option.none : Option Jvm.ClassFile.FieldType)) ∈ lw_all := lw_g (lw_at lw_m0 74 rfl) rfl
theorem q75 : (Jvm.Cond.methodLink "InnerCode" (20 : Nat) ({ cls := "ReedMuller", name := "encode", desc := "([J[BII)V" } : Jvm.MethodName)) ∈ lw_all := lw_g (lw_at lw_m0 75 rfl) rfl
theorem q94 : (Jvm.Cond.instanceMethod ({ cls := "InnerCode", name := "letter", desc := "(II)V" } : Jvm.MethodName)) ∈ lw_all := lw_g (lw_at lw_m0 94 rfl) rfl
theorem q95 : (Jvm.Cond.selects "InnerCode" ({ cls := "InnerCode", name := "letter", desc := "(II)V" } : Jvm.MethodName) ({ cls := "InnerCode", name := "letter", desc := "(II)V" } : Jvm.MethodName)) ∈ lw_all := lw_g (lw_at lw_m0 95 rfl) rfl
theorem q96 : (Jvm.Cond.code ({ cls := "InnerCode", name := "letter", desc := "(II)V" } : Jvm.MethodName) prog_1_method_2_code (3 : Nat) (Option.none : Option Jvm.ClassFile.FieldType)) ∈ lw_all := lw_g (lw_at lw_m0 96 rfl) rfl
theorem q98 : (Jvm.Cond.instanceMethod ({ cls := "InnerCode", name := "bit", desc := "(I)I" } : Jvm.MethodName)) ∈ lw_all := lw_g (lw_at lw_m0 98 rfl) rfl
theorem q99 : (Jvm.Cond.selects "InnerCode" ({ cls := "InnerCode", name := "bit", desc := "(I)I" } : Jvm.MethodName) ({ cls := "InnerCode", name := "bit", desc := "(I)I" } : Jvm.MethodName)) ∈ lw_all := lw_g (lw_at lw_m0 99 rfl) rfl
theorem q100 : (Jvm.Cond.code ({ cls := "InnerCode", name := "bit", desc := "(I)I" } : Jvm.MethodName) prog_1_method_5_code (3 : Nat) (Option.some Jvm.ClassFile.FieldType.int)) ∈ lw_all := lw_g (lw_at lw_m0 100 rfl) rfl
theorem q108 : (Jvm.Cond.instanceMethod ({ cls := "InnerCode", name := "read", desc := "()I" } : Jvm.MethodName)) ∈ lw_all := lw_g (lw_at lw_m0 108 rfl) rfl
theorem q109 : (Jvm.Cond.selects "InnerCode" ({ cls := "InnerCode", name := "read", desc := "()I" } : Jvm.MethodName) ({ cls := "InnerCode", name := "read", desc := "()I" } : Jvm.MethodName)) ∈ lw_all := lw_g (lw_at lw_m0 109 rfl) rfl
theorem q110 : (Jvm.Cond.code ({ cls := "InnerCode", name := "read", desc := "()I" } : Jvm.MethodName) prog_1_method_6_code (4 : Nat) (Option.some Jvm.ClassFile.FieldType.int)) ∈ lw_all := lw_g (lw_at lw_m0 110 rfl) rfl
theorem q111 : (Jvm.Cond.methodLink "InnerCode" (31 : Nat) ({ cls := "ReedMuller", name := "decode", desc := "([B[JII)V" } : Jvm.MethodName)) ∈ lw_all := lw_g (lw_at lw_m0 111 rfl) rfl
theorem q133 : (Jvm.Cond.instanceMethod ({ cls := "InnerCode", name := "letter", desc := "(I)I" } : Jvm.MethodName)) ∈ lw_all := lw_g (lw_at lw_m0 133 rfl) rfl
theorem q134 : (Jvm.Cond.selects "InnerCode" ({ cls := "InnerCode", name := "letter", desc := "(I)I" } : Jvm.MethodName) ({ cls := "InnerCode", name := "letter", desc := "(I)I" } : Jvm.MethodName)) ∈ lw_all := lw_g (lw_at lw_m0 134 rfl) rfl
theorem q135 : (Jvm.Cond.code ({ cls := "InnerCode", name := "letter", desc := "(I)I" } : Jvm.MethodName) prog_1_method_7_code (2 : Nat) (Option.some Jvm.ClassFile.FieldType.int)) ∈ lw_all := lw_g (lw_at lw_m0 135 rfl) rfl
theorem in_X1 : ∀ w ∈ wsX10, w ∈ lw_all := lw_in wsX10 [18, 20, 22, 24] (by decide +kernel) (by decide +kernel)
/-! InnerCodeLaw$Told -/
set_option maxRecDepth 100000
def RX2 : String := "InnerCodeLaw$Told"
def TX2 : u_T := fun k => match k with
  | 0 => ("InnerCodeLaw$Told", "letters", "[I", true)
  | 1 => ("InnerCodeLaw$Told", "written", "[I", true)
  | 2 => ("InnerCodeLaw$Told", "turned", "[Z", false)
  | _ => ("InnerCodeLaw$Told", "harmed", "I", false)
def tyX2 : Nat → FieldType := fun k => match k with
  | 0 => .array .int
  | 1 => .array .int
  | 2 => .array .boolean
  | _ => .int
abbrev wsX20 : List Cond := u_ws RX2 TX2 4
theorem nmX2 : ∀ a, a < 4 → ∀ b, b < 4 → a ≠ b → (TX2 a).2.1 ≠ (TX2 b).2.1 := by decide +kernel
theorem tyX2_ok : ∀ k, k < 4 → parseFieldDescriptor (TX2 k).2.2.1 = some (tyX2 k) := by decide +kernel
abbrev cX2_init : ByteArray := prog_3_method_1_code
def yX2_init : MethodName := ⟨RX2, "<init>", "()V"⟩
def dkwX2_init_1 : List UInt8 := [181, 0, 18, 177]
abbrev dktX2_init_1 : List UInt8 := dkwX2_init_1 ++ []
def dkwX2_init_0 : List UInt8 := [42, 183, 0, 3, 42, 7, 188, 10, 181, 0, 9, 42, 7, 188, 10, 181, 0, 15, 42, 17, 6, 0, 188, 4]
abbrev dktX2_init_0 : List UInt8 := dkwX2_init_0 ++ dktX2_init_1
theorem dksX2_init_0 : cX2_init.data.toList.drop 0 = dktX2_init_0 := by decide +kernel
theorem dksX2_init_1 : cX2_init.data.toList.drop 24 = dktX2_init_1 := dk_seg dksX2_init_0 24 rfl rfl
theorem dX2_init_0 : decode cX2_init 0 = .ok (.aload_n 0, 1) := dk_42 (dk_at dksX2_init_0 0 rfl rfl)
theorem dX2_init_1 : decode cX2_init 1 = .ok (.invokespecial 3, 3) := dk_183 0 3 (dk_at dksX2_init_0 1 rfl rfl)
theorem dX2_init_4 : decode cX2_init 4 = .ok (.aload_n 0, 1) := dk_42 (dk_at dksX2_init_0 4 rfl rfl)
theorem dX2_init_5 : decode cX2_init 5 = .ok (.iconst 4, 1) := dk_7 (dk_at dksX2_init_0 5 rfl rfl)
theorem dX2_init_6 : decode cX2_init 6 = .ok (.newarray .int, 2) := dk_188_10 (dk_at dksX2_init_0 6 rfl rfl)
theorem dX2_init_8 : decode cX2_init 8 = .ok (.putfield 9, 3) := dk_181 0 9 (dk_at dksX2_init_0 8 rfl rfl)
theorem dX2_init_11 : decode cX2_init 11 = .ok (.aload_n 0, 1) := dk_42 (dk_at dksX2_init_0 11 rfl rfl)
theorem dX2_init_12 : decode cX2_init 12 = .ok (.iconst 4, 1) := dk_7 (dk_at dksX2_init_0 12 rfl rfl)
theorem dX2_init_13 : decode cX2_init 13 = .ok (.newarray .int, 2) := dk_188_10 (dk_at dksX2_init_0 13 rfl rfl)
theorem dX2_init_15 : decode cX2_init 15 = .ok (.putfield 15, 3) := dk_181 0 15 (dk_at dksX2_init_0 15 rfl rfl)
theorem dX2_init_18 : decode cX2_init 18 = .ok (.aload_n 0, 1) := dk_42 (dk_at dksX2_init_0 18 rfl rfl)
theorem dX2_init_19 : decode cX2_init 19 = .ok (.sipush 1536, 3) := dk_17 6 0 (dk_at dksX2_init_0 19 rfl rfl)
theorem dX2_init_22 : decode cX2_init 22 = .ok (.newarray .boolean, 2) := dk_188_4 (dk_at dksX2_init_0 22 rfl rfl)
theorem dX2_init_24 : decode cX2_init 24 = .ok (.putfield 18, 3) := dk_181 0 18 (dk_at dksX2_init_1 0 rfl rfl)
theorem dX2_init_27 : decode cX2_init 27 = .ok (.return_, 1) := dk_177 (dk_at dksX2_init_1 3 rfl rfl)
theorem q2 : (Jvm.Cond.initialized "InnerCodeLaw$Told") ∈ lw_all := lw_g (lw_at lw_m0 2 rfl) rfl
theorem q35 : (Jvm.Cond.instantiable "InnerCodeLaw$Told" (4 : Nat)) ∈ lw_all := lw_g (lw_at lw_m0 35 rfl) rfl
theorem q37 : (Jvm.Cond.instanceMethod ({ cls := "InnerCodeLaw$Told", name := "<init>", desc := "()V" } : Jvm.MethodName)) ∈ lw_all := lw_g (lw_at lw_m0 37 rfl) rfl
theorem q38 : (Jvm.Cond.code ({ cls := "InnerCodeLaw$Told", name := "<init>", desc := "()V" } : Jvm.MethodName) prog_3_method_1_code (1 : Nat) (Option.none : Option Jvm.ClassFile.FieldType)) ∈ lw_all := lw_g (lw_at lw_m0 38 rfl) rfl
theorem q39 : (Jvm.Cond.methodLink "InnerCodeLaw$Told" (3 : Nat) ({ cls := "java/lang/Object", name := "<init>", desc := "()V" } : Jvm.MethodName)) ∈ lw_all := lw_g (lw_at lw_m0 39 rfl) rfl
theorem q40 : (Jvm.Cond.fieldLink "InnerCodeLaw$Told" (9 : Nat) "InnerCodeLaw$Told" "letters" "[I") ∈ lw_all := lw_g (lw_at lw_m0 40 rfl) rfl
theorem q42 : (Jvm.Cond.fieldLink "InnerCodeLaw$Told" (15 : Nat) "InnerCodeLaw$Told" "written" "[I") ∈ lw_all := lw_g (lw_at lw_m0 42 rfl) rfl
theorem q44 : (Jvm.Cond.fieldLink "InnerCodeLaw$Told" (18 : Nat) "InnerCodeLaw$Told" "turned" "[Z") ∈ lw_all := lw_g (lw_at lw_m0 44 rfl) rfl
theorem q47 : (Jvm.Cond.laysFinal "InnerCodeLaw$Told" "InnerCodeLaw$Told" "letters" "[I") ∈ lw_all := lw_g (lw_at lw_m0 47 rfl) rfl
theorem q48 : (Jvm.Cond.soleField "InnerCodeLaw$Told" "letters") ∈ lw_all := lw_g (lw_at lw_m0 48 rfl) rfl
theorem q49 : (Jvm.Cond.laysFinal "InnerCodeLaw$Told" "InnerCodeLaw$Told" "written" "[I") ∈ lw_all := lw_g (lw_at lw_m0 49 rfl) rfl
theorem q50 : (Jvm.Cond.soleField "InnerCodeLaw$Told" "written") ∈ lw_all := lw_g (lw_at lw_m0 50 rfl) rfl
theorem q51 : (Jvm.Cond.lays "InnerCodeLaw$Told" "InnerCodeLaw$Told" "turned" "[Z") ∈ lw_all := lw_g (lw_at lw_m0 51 rfl) rfl
theorem q52 : (Jvm.Cond.soleField "InnerCodeLaw$Told" "turned") ∈ lw_all := lw_g (lw_at lw_m0 52 rfl) rfl
theorem q53 : (Jvm.Cond.lays "InnerCodeLaw$Told" "InnerCodeLaw$Told" "harmed" "I") ∈ lw_all := lw_g (lw_at lw_m0 53 rfl) rfl
theorem q54 : (Jvm.Cond.soleField "InnerCodeLaw$Told" "harmed") ∈ lw_all := lw_g (lw_at lw_m0 54 rfl) rfl
theorem q55 : (Jvm.Cond.superclass "InnerCodeLaw$Told" "java/lang/Object") ∈ lw_all := lw_g (lw_at lw_m0 55 rfl) rfl
theorem in_X2 : ∀ w ∈ wsX20, w ∈ lw_all := lw_in wsX20 [47, 49, 51, 53] (by decide +kernel) (by decide +kernel)
/-! InnerCodeLaw -/
set_option maxRecDepth 100000
def RX0 : String := "InnerCodeLaw"
abbrev cX0_cell : ByteArray := method_2_code
def yX0_cell : MethodName := ⟨RX0, "cell", "([II)I"⟩
def dkwX0_cell_0 : List UInt8 := [27, 42, 190, 162, 0, 9, 42, 27, 46, 167, 0, 4, 3, 172]
abbrev dktX0_cell_0 : List UInt8 := dkwX0_cell_0 ++ []
theorem dksX0_cell_0 : cX0_cell.data.toList.drop 0 = dktX0_cell_0 := by decide +kernel
theorem dX0_cell_0 : decode cX0_cell 0 = .ok (.iload_n 1, 1) := dk_27 (dk_at dksX0_cell_0 0 rfl rfl)
theorem dX0_cell_1 : decode cX0_cell 1 = .ok (.aload_n 0, 1) := dk_42 (dk_at dksX0_cell_0 1 rfl rfl)
theorem dX0_cell_2 : decode cX0_cell 2 = .ok (.arraylength, 1) := dk_190 (dk_at dksX0_cell_0 2 rfl rfl)
theorem dX0_cell_3 : decode cX0_cell 3 = .ok (.if_icmp .ge 9, 3) := dk_162 0 9 (dk_at dksX0_cell_0 3 rfl rfl)
theorem dX0_cell_6 : decode cX0_cell 6 = .ok (.aload_n 0, 1) := dk_42 (dk_at dksX0_cell_0 6 rfl rfl)
theorem dX0_cell_7 : decode cX0_cell 7 = .ok (.iload_n 1, 1) := dk_27 (dk_at dksX0_cell_0 7 rfl rfl)
theorem dX0_cell_8 : decode cX0_cell 8 = .ok (.iaload, 1) := dk_46 (dk_at dksX0_cell_0 8 rfl rfl)
theorem dX0_cell_9 : decode cX0_cell 9 = .ok (.goto 4, 3) := dk_167 0 4 (dk_at dksX0_cell_0 9 rfl rfl)
theorem dX0_cell_12 : decode cX0_cell 12 = .ok (.iconst 0, 1) := dk_3 (dk_at dksX0_cell_0 12 rfl rfl)
theorem dX0_cell_13 : decode cX0_cell 13 = .ok (.ireturn, 1) := dk_172 (dk_at dksX0_cell_0 13 rfl rfl)
abbrev cX0_burst : ByteArray := method_7_code
def yX0_burst : MethodName := ⟨RX0, "burst", "(LInnerCode;LInnerCodeLaw$Told;III)Z"⟩
def dkwX0_burst_1 : List UInt8 := [3, 172, 132, 5, 1, 167, 255, 230, 4, 172]
abbrev dktX0_burst_1 : List UInt8 := dkwX0_burst_1 ++ []
def dkwX0_burst_0 : List UInt8 := [3, 54, 5, 21, 5, 21, 4, 162, 0, 25, 42, 43, 28, 21, 5, 29, 104, 96, 184, 0, 34, 154, 0, 5]
abbrev dktX0_burst_0 : List UInt8 := dkwX0_burst_0 ++ dktX0_burst_1
theorem dksX0_burst_0 : cX0_burst.data.toList.drop 0 = dktX0_burst_0 := by decide +kernel
theorem dksX0_burst_1 : cX0_burst.data.toList.drop 24 = dktX0_burst_1 := dk_seg dksX0_burst_0 24 rfl rfl
theorem dX0_burst_0 : decode cX0_burst 0 = .ok (.iconst 0, 1) := dk_3 (dk_at dksX0_burst_0 0 rfl rfl)
theorem dX0_burst_1 : decode cX0_burst 1 = .ok (.istore 5, 2) := dk_54 5 (dk_at dksX0_burst_0 1 rfl rfl)
theorem dX0_burst_3 : decode cX0_burst 3 = .ok (.iload 5, 2) := dk_21 5 (dk_at dksX0_burst_0 3 rfl rfl)
theorem dX0_burst_5 : decode cX0_burst 5 = .ok (.iload 4, 2) := dk_21 4 (dk_at dksX0_burst_0 5 rfl rfl)
theorem dX0_burst_7 : decode cX0_burst 7 = .ok (.if_icmp .ge 25, 3) := dk_162 0 25 (dk_at dksX0_burst_0 7 rfl rfl)
theorem dX0_burst_10 : decode cX0_burst 10 = .ok (.aload_n 0, 1) := dk_42 (dk_at dksX0_burst_0 10 rfl rfl)
theorem dX0_burst_11 : decode cX0_burst 11 = .ok (.aload_n 1, 1) := dk_43 (dk_at dksX0_burst_0 11 rfl rfl)
theorem dX0_burst_12 : decode cX0_burst 12 = .ok (.iload_n 2, 1) := dk_28 (dk_at dksX0_burst_0 12 rfl rfl)
theorem dX0_burst_13 : decode cX0_burst 13 = .ok (.iload 5, 2) := dk_21 5 (dk_at dksX0_burst_0 13 rfl rfl)
theorem dX0_burst_15 : decode cX0_burst 15 = .ok (.iload_n 3, 1) := dk_29 (dk_at dksX0_burst_0 15 rfl rfl)
theorem dX0_burst_16 : decode cX0_burst 16 = .ok (.imul, 1) := dk_104 (dk_at dksX0_burst_0 16 rfl rfl)
theorem dX0_burst_17 : decode cX0_burst 17 = .ok (.iadd, 1) := dk_96 (dk_at dksX0_burst_0 17 rfl rfl)
theorem dX0_burst_18 : decode cX0_burst 18 = .ok (.invokestatic 34, 3) := dk_184 0 34 (dk_at dksX0_burst_0 18 rfl rfl)
theorem dX0_burst_21 : decode cX0_burst 21 = .ok (.ifCond .ne 5, 3) := dk_154 0 5 (dk_at dksX0_burst_0 21 rfl rfl)
theorem dX0_burst_24 : decode cX0_burst 24 = .ok (.iconst 0, 1) := dk_3 (dk_at dksX0_burst_1 0 rfl rfl)
theorem dX0_burst_25 : decode cX0_burst 25 = .ok (.ireturn, 1) := dk_172 (dk_at dksX0_burst_1 1 rfl rfl)
theorem dX0_burst_26 : decode cX0_burst 26 = .ok (.iinc 5 1, 3) := dk_132 5 1 (dk_at dksX0_burst_1 2 rfl rfl)
theorem dX0_burst_29 : decode cX0_burst 29 = .ok (.goto (-26), 3) := dk_167 255 230 (dk_at dksX0_burst_1 5 rfl rfl)
theorem dX0_burst_32 : decode cX0_burst 32 = .ok (.iconst 1, 1) := dk_4 (dk_at dksX0_burst_1 8 rfl rfl)
theorem dX0_burst_33 : decode cX0_burst 33 = .ok (.ireturn, 1) := dk_172 (dk_at dksX0_burst_1 9 rfl rfl)
abbrev cX0_harm : ByteArray := method_6_code
def yX0_harm : MethodName := ⟨RX0, "harm", "(LInnerCode;LInnerCodeLaw$Told;I)Z"⟩
def dkwX0_harm_3 : List UInt8 := [4, 167, 0, 4, 3, 172]
abbrev dktX0_harm_3 : List UInt8 := dkwX0_harm_3 ++ []
def dkwX0_harm_2 : List UInt8 := [167, 0, 4, 3, 84, 43, 89, 180, 0, 23, 4, 96, 181, 0, 23, 42, 28, 182, 0, 28, 29, 160, 0, 7]
abbrev dktX0_harm_2 : List UInt8 := dkwX0_harm_2 ++ dktX0_harm_3
def dkwX0_harm_1 : List UInt8 := [17, 6, 0, 112, 54, 4, 43, 180, 0, 19, 21, 4, 43, 180, 0, 19, 21, 4, 51, 154, 0, 7, 4]
abbrev dktX0_harm_1 : List UInt8 := dkwX0_harm_1 ++ dktX0_harm_2
def dkwX0_harm_0 : List UInt8 := [43, 180, 0, 23, 16, 40, 162, 0, 7, 4, 167, 0, 4, 3, 62, 29, 153, 0, 45, 28, 18, 27, 126]
abbrev dktX0_harm_0 : List UInt8 := dkwX0_harm_0 ++ dktX0_harm_1
theorem dksX0_harm_0 : cX0_harm.data.toList.drop 0 = dktX0_harm_0 := by decide +kernel
theorem dksX0_harm_1 : cX0_harm.data.toList.drop 23 = dktX0_harm_1 := dk_seg dksX0_harm_0 23 rfl rfl
theorem dksX0_harm_2 : cX0_harm.data.toList.drop 46 = dktX0_harm_2 := dk_seg dksX0_harm_1 23 rfl rfl
theorem dksX0_harm_3 : cX0_harm.data.toList.drop 70 = dktX0_harm_3 := dk_seg dksX0_harm_2 24 rfl rfl
theorem dX0_harm_0 : decode cX0_harm 0 = .ok (.aload_n 1, 1) := dk_43 (dk_at dksX0_harm_0 0 rfl rfl)
theorem dX0_harm_1 : decode cX0_harm 1 = .ok (.getfield 23, 3) := dk_180 0 23 (dk_at dksX0_harm_0 1 rfl rfl)
theorem dX0_harm_4 : decode cX0_harm 4 = .ok (.bipush 40, 2) := dk_16 40 (dk_at dksX0_harm_0 4 rfl rfl)
theorem dX0_harm_6 : decode cX0_harm 6 = .ok (.if_icmp .ge 7, 3) := dk_162 0 7 (dk_at dksX0_harm_0 6 rfl rfl)
theorem dX0_harm_9 : decode cX0_harm 9 = .ok (.iconst 1, 1) := dk_4 (dk_at dksX0_harm_0 9 rfl rfl)
theorem dX0_harm_10 : decode cX0_harm 10 = .ok (.goto 4, 3) := dk_167 0 4 (dk_at dksX0_harm_0 10 rfl rfl)
theorem dX0_harm_13 : decode cX0_harm 13 = .ok (.iconst 0, 1) := dk_3 (dk_at dksX0_harm_0 13 rfl rfl)
theorem dX0_harm_14 : decode cX0_harm 14 = .ok (.istore_n 3, 1) := dk_62 (dk_at dksX0_harm_0 14 rfl rfl)
theorem dX0_harm_15 : decode cX0_harm 15 = .ok (.iload_n 3, 1) := dk_29 (dk_at dksX0_harm_0 15 rfl rfl)
theorem dX0_harm_16 : decode cX0_harm 16 = .ok (.ifCond .eq 45, 3) := dk_153 0 45 (dk_at dksX0_harm_0 16 rfl rfl)
theorem dX0_harm_19 : decode cX0_harm 19 = .ok (.iload_n 2, 1) := dk_28 (dk_at dksX0_harm_0 19 rfl rfl)
theorem dX0_harm_20 : decode cX0_harm 20 = .ok (.ldc 27, 2) := dk_18 27 (dk_at dksX0_harm_0 20 rfl rfl)
theorem dX0_harm_22 : decode cX0_harm 22 = .ok (.iand, 1) := dk_126 (dk_at dksX0_harm_0 22 rfl rfl)
theorem dX0_harm_23 : decode cX0_harm 23 = .ok (.sipush 1536, 3) := dk_17 6 0 (dk_at dksX0_harm_1 0 rfl rfl)
theorem dX0_harm_26 : decode cX0_harm 26 = .ok (.irem, 1) := dk_112 (dk_at dksX0_harm_1 3 rfl rfl)
theorem dX0_harm_27 : decode cX0_harm 27 = .ok (.istore 4, 2) := dk_54 4 (dk_at dksX0_harm_1 4 rfl rfl)
theorem dX0_harm_29 : decode cX0_harm 29 = .ok (.aload_n 1, 1) := dk_43 (dk_at dksX0_harm_1 6 rfl rfl)
theorem dX0_harm_30 : decode cX0_harm 30 = .ok (.getfield 19, 3) := dk_180 0 19 (dk_at dksX0_harm_1 7 rfl rfl)
theorem dX0_harm_33 : decode cX0_harm 33 = .ok (.iload 4, 2) := dk_21 4 (dk_at dksX0_harm_1 10 rfl rfl)
theorem dX0_harm_35 : decode cX0_harm 35 = .ok (.aload_n 1, 1) := dk_43 (dk_at dksX0_harm_1 12 rfl rfl)
theorem dX0_harm_36 : decode cX0_harm 36 = .ok (.getfield 19, 3) := dk_180 0 19 (dk_at dksX0_harm_1 13 rfl rfl)
theorem dX0_harm_39 : decode cX0_harm 39 = .ok (.iload 4, 2) := dk_21 4 (dk_at dksX0_harm_1 16 rfl rfl)
theorem dX0_harm_41 : decode cX0_harm 41 = .ok (.baload, 1) := dk_51 (dk_at dksX0_harm_1 18 rfl rfl)
theorem dX0_harm_42 : decode cX0_harm 42 = .ok (.ifCond .ne 7, 3) := dk_154 0 7 (dk_at dksX0_harm_1 19 rfl rfl)
theorem dX0_harm_45 : decode cX0_harm 45 = .ok (.iconst 1, 1) := dk_4 (dk_at dksX0_harm_1 22 rfl rfl)
theorem dX0_harm_46 : decode cX0_harm 46 = .ok (.goto 4, 3) := dk_167 0 4 (dk_at dksX0_harm_2 0 rfl rfl)
theorem dX0_harm_49 : decode cX0_harm 49 = .ok (.iconst 0, 1) := dk_3 (dk_at dksX0_harm_2 3 rfl rfl)
theorem dX0_harm_50 : decode cX0_harm 50 = .ok (.bastore, 1) := dk_84 (dk_at dksX0_harm_2 4 rfl rfl)
theorem dX0_harm_51 : decode cX0_harm 51 = .ok (.aload_n 1, 1) := dk_43 (dk_at dksX0_harm_2 5 rfl rfl)
theorem dX0_harm_52 : decode cX0_harm 52 = .ok (.dup, 1) := dk_89 (dk_at dksX0_harm_2 6 rfl rfl)
theorem dX0_harm_53 : decode cX0_harm 53 = .ok (.getfield 23, 3) := dk_180 0 23 (dk_at dksX0_harm_2 7 rfl rfl)
theorem dX0_harm_56 : decode cX0_harm 56 = .ok (.iconst 1, 1) := dk_4 (dk_at dksX0_harm_2 10 rfl rfl)
theorem dX0_harm_57 : decode cX0_harm 57 = .ok (.iadd, 1) := dk_96 (dk_at dksX0_harm_2 11 rfl rfl)
theorem dX0_harm_58 : decode cX0_harm 58 = .ok (.putfield 23, 3) := dk_181 0 23 (dk_at dksX0_harm_2 12 rfl rfl)
theorem dX0_harm_61 : decode cX0_harm 61 = .ok (.aload_n 0, 1) := dk_42 (dk_at dksX0_harm_2 15 rfl rfl)
theorem dX0_harm_62 : decode cX0_harm 62 = .ok (.iload_n 2, 1) := dk_28 (dk_at dksX0_harm_2 16 rfl rfl)
theorem dX0_harm_63 : decode cX0_harm 63 = .ok (.invokevirtual 28, 3) := dk_182 0 28 (dk_at dksX0_harm_2 17 rfl rfl)
theorem dX0_harm_66 : decode cX0_harm 66 = .ok (.iload_n 3, 1) := dk_29 (dk_at dksX0_harm_2 20 rfl rfl)
theorem dX0_harm_67 : decode cX0_harm 67 = .ok (.if_icmp .ne 7, 3) := dk_160 0 7 (dk_at dksX0_harm_2 21 rfl rfl)
theorem dX0_harm_70 : decode cX0_harm 70 = .ok (.iconst 1, 1) := dk_4 (dk_at dksX0_harm_3 0 rfl rfl)
theorem dX0_harm_71 : decode cX0_harm 71 = .ok (.goto 4, 3) := dk_167 0 4 (dk_at dksX0_harm_3 1 rfl rfl)
theorem dX0_harm_74 : decode cX0_harm 74 = .ok (.iconst 0, 1) := dk_3 (dk_at dksX0_harm_3 4 rfl rfl)
theorem dX0_harm_75 : decode cX0_harm 75 = .ok (.ireturn, 1) := dk_172 (dk_at dksX0_harm_3 5 rfl rfl)
abbrev cX0_write : ByteArray := method_8_code
def yX0_write : MethodName := ⟨RX0, "write", "(LInnerCode;LInnerCodeLaw$Told;)V"⟩
def dkwX0_write_1 : List UInt8 := [132, 2, 1, 167, 255, 236, 43, 17, 6, 0, 188, 4, 181, 0, 19, 43, 3, 181, 0, 23, 177]
abbrev dktX0_write_1 : List UInt8 := dkwX0_write_1 ++ []
def dkwX0_write_0 : List UInt8 := [42, 182, 0, 37, 3, 61, 28, 7, 162, 0, 21, 43, 180, 0, 7, 28, 43, 180, 0, 40, 28, 46, 79]
abbrev dktX0_write_0 : List UInt8 := dkwX0_write_0 ++ dktX0_write_1
theorem dksX0_write_0 : cX0_write.data.toList.drop 0 = dktX0_write_0 := by decide +kernel
theorem dksX0_write_1 : cX0_write.data.toList.drop 23 = dktX0_write_1 := dk_seg dksX0_write_0 23 rfl rfl
theorem dX0_write_0 : decode cX0_write 0 = .ok (.aload_n 0, 1) := dk_42 (dk_at dksX0_write_0 0 rfl rfl)
theorem dX0_write_1 : decode cX0_write 1 = .ok (.invokevirtual 37, 3) := dk_182 0 37 (dk_at dksX0_write_0 1 rfl rfl)
theorem dX0_write_4 : decode cX0_write 4 = .ok (.iconst 0, 1) := dk_3 (dk_at dksX0_write_0 4 rfl rfl)
theorem dX0_write_5 : decode cX0_write 5 = .ok (.istore_n 2, 1) := dk_61 (dk_at dksX0_write_0 5 rfl rfl)
theorem dX0_write_6 : decode cX0_write 6 = .ok (.iload_n 2, 1) := dk_28 (dk_at dksX0_write_0 6 rfl rfl)
theorem dX0_write_7 : decode cX0_write 7 = .ok (.iconst 4, 1) := dk_7 (dk_at dksX0_write_0 7 rfl rfl)
theorem dX0_write_8 : decode cX0_write 8 = .ok (.if_icmp .ge 21, 3) := dk_162 0 21 (dk_at dksX0_write_0 8 rfl rfl)
theorem dX0_write_11 : decode cX0_write 11 = .ok (.aload_n 1, 1) := dk_43 (dk_at dksX0_write_0 11 rfl rfl)
theorem dX0_write_12 : decode cX0_write 12 = .ok (.getfield 7, 3) := dk_180 0 7 (dk_at dksX0_write_0 12 rfl rfl)
theorem dX0_write_15 : decode cX0_write 15 = .ok (.iload_n 2, 1) := dk_28 (dk_at dksX0_write_0 15 rfl rfl)
theorem dX0_write_16 : decode cX0_write 16 = .ok (.aload_n 1, 1) := dk_43 (dk_at dksX0_write_0 16 rfl rfl)
theorem dX0_write_17 : decode cX0_write 17 = .ok (.getfield 40, 3) := dk_180 0 40 (dk_at dksX0_write_0 17 rfl rfl)
theorem dX0_write_20 : decode cX0_write 20 = .ok (.iload_n 2, 1) := dk_28 (dk_at dksX0_write_0 20 rfl rfl)
theorem dX0_write_21 : decode cX0_write 21 = .ok (.iaload, 1) := dk_46 (dk_at dksX0_write_0 21 rfl rfl)
theorem dX0_write_22 : decode cX0_write 22 = .ok (.iastore, 1) := dk_79 (dk_at dksX0_write_0 22 rfl rfl)
theorem dX0_write_23 : decode cX0_write 23 = .ok (.iinc 2 1, 3) := dk_132 2 1 (dk_at dksX0_write_1 0 rfl rfl)
theorem dX0_write_26 : decode cX0_write 26 = .ok (.goto (-20), 3) := dk_167 255 236 (dk_at dksX0_write_1 3 rfl rfl)
theorem dX0_write_29 : decode cX0_write 29 = .ok (.aload_n 1, 1) := dk_43 (dk_at dksX0_write_1 6 rfl rfl)
theorem dX0_write_30 : decode cX0_write 30 = .ok (.sipush 1536, 3) := dk_17 6 0 (dk_at dksX0_write_1 7 rfl rfl)
theorem dX0_write_33 : decode cX0_write 33 = .ok (.newarray .boolean, 2) := dk_188_4 (dk_at dksX0_write_1 10 rfl rfl)
theorem dX0_write_35 : decode cX0_write 35 = .ok (.putfield 19, 3) := dk_181 0 19 (dk_at dksX0_write_1 12 rfl rfl)
theorem dX0_write_38 : decode cX0_write 38 = .ok (.aload_n 1, 1) := dk_43 (dk_at dksX0_write_1 15 rfl rfl)
theorem dX0_write_39 : decode cX0_write 39 = .ok (.iconst 0, 1) := dk_3 (dk_at dksX0_write_1 16 rfl rfl)
theorem dX0_write_40 : decode cX0_write 40 = .ok (.putfield 23, 3) := dk_181 0 23 (dk_at dksX0_write_1 17 rfl rfl)
theorem dX0_write_43 : decode cX0_write 43 = .ok (.return_, 1) := dk_177 (dk_at dksX0_write_1 20 rfl rfl)
abbrev cX0_call : ByteArray := method_9_code
def yX0_call : MethodName := ⟨RX0, "call", "(LInnerCode;LInnerCodeLaw$Told;I)Z"⟩
def dkwX0_call_7 : List UInt8 := [160, 0, 7, 4, 167, 0, 4, 3, 172]
abbrev dktX0_call_7 : List UInt8 := dkwX0_call_7 ++ []
def dkwX0_call_6 : List UInt8 := [160, 0, 7, 4, 167, 0, 4, 3, 172, 42, 29, 182, 0, 69, 43, 180, 0, 40, 29, 6, 126, 46]
abbrev dktX0_call_6 : List UInt8 := dkwX0_call_6 ++ dktX0_call_7
def dkwX0_call_5 : List UInt8 := [112, 184, 0, 58, 160, 0, 7, 4, 167, 0, 4, 3, 172, 42, 182, 0, 61, 43, 180, 0, 7, 184, 0, 65]
abbrev dktX0_call_5 : List UInt8 := dkwX0_call_5 ++ dktX0_call_6
def dkwX0_call_4 : List UInt8 := [124, 4, 29, 16, 31, 126, 96, 184, 0, 50, 172, 42, 29, 182, 0, 54, 43, 29, 18, 27, 126, 17, 6, 0]
abbrev dktX0_call_4 : List UInt8 := dkwX0_call_4 ++ dktX0_call_5
def dkwX0_call_3 : List UInt8 := [172, 42, 43, 184, 0, 47, 4, 172, 42, 43, 29, 184, 0, 34, 172, 42, 43, 28, 16, 8, 124, 28, 16, 20]
abbrev dktX0_call_3 : List UInt8 := dkwX0_call_3 ++ dktX0_call_4
def dkwX0_call_2 : List UInt8 := [42, 29, 28, 8, 122, 182, 0, 43, 43, 180, 0, 40, 29, 6, 126, 28, 8, 122, 17, 0, 255, 126, 79, 4]
abbrev dktX0_call_2 : List UInt8 := dkwX0_call_2 ++ dktX0_call_3
def dkwX0_call_1 : List UInt8 := [170, 0, 0, 0, 0, 0, 0, 149, 0, 0, 0, 0, 0, 0, 0, 6, 0, 0, 0, 44, 0, 0, 0, 44, 0, 0, 0, 69, 0, 0, 0, 76, 0, 0, 0, 83, 0, 0, 0, 103, 0, 0, 0, 129]
abbrev dktX0_call_1 : List UInt8 := dkwX0_call_1 ++ dktX0_call_2
def dkwX0_call_0 : List UInt8 := [28, 6, 122, 62, 28, 16, 7, 126]
abbrev dktX0_call_0 : List UInt8 := dkwX0_call_0 ++ dktX0_call_1
theorem dksX0_call_0 : cX0_call.data.toList.drop 0 = dktX0_call_0 := by decide +kernel
theorem dksX0_call_1 : cX0_call.data.toList.drop 8 = dktX0_call_1 := dk_seg dksX0_call_0 8 rfl rfl
theorem dksX0_call_2 : cX0_call.data.toList.drop 52 = dktX0_call_2 := dk_seg dksX0_call_1 44 rfl rfl
theorem dksX0_call_3 : cX0_call.data.toList.drop 76 = dktX0_call_3 := dk_seg dksX0_call_2 24 rfl rfl
theorem dksX0_call_4 : cX0_call.data.toList.drop 100 = dktX0_call_4 := dk_seg dksX0_call_3 24 rfl rfl
theorem dksX0_call_5 : cX0_call.data.toList.drop 124 = dktX0_call_5 := dk_seg dksX0_call_4 24 rfl rfl
theorem dksX0_call_6 : cX0_call.data.toList.drop 148 = dktX0_call_6 := dk_seg dksX0_call_5 24 rfl rfl
theorem dksX0_call_7 : cX0_call.data.toList.drop 170 = dktX0_call_7 := dk_seg dksX0_call_6 22 rfl rfl
theorem dX0_call_0 : decode cX0_call 0 = .ok (.iload_n 2, 1) := dk_28 (dk_at dksX0_call_0 0 rfl rfl)
theorem dX0_call_1 : decode cX0_call 1 = .ok (.iconst 3, 1) := dk_6 (dk_at dksX0_call_0 1 rfl rfl)
theorem dX0_call_2 : decode cX0_call 2 = .ok (.ishr, 1) := dk_122 (dk_at dksX0_call_0 2 rfl rfl)
theorem dX0_call_3 : decode cX0_call 3 = .ok (.istore_n 3, 1) := dk_62 (dk_at dksX0_call_0 3 rfl rfl)
theorem dX0_call_4 : decode cX0_call 4 = .ok (.iload_n 2, 1) := dk_28 (dk_at dksX0_call_0 4 rfl rfl)
theorem dX0_call_5 : decode cX0_call 5 = .ok (.bipush 7, 2) := dk_16 7 (dk_at dksX0_call_0 5 rfl rfl)
theorem dX0_call_7 : decode cX0_call 7 = .ok (.iand, 1) := dk_126 (dk_at dksX0_call_0 7 rfl rfl)
theorem dX0_call_8 : decode cX0_call 8 = .ok (.tableswitch 149 0 6 #[44, 44, 69, 76, 83, 103, 129], 44) := by decide +kernel
theorem dX0_call_52 : decode cX0_call 52 = .ok (.aload_n 0, 1) := dk_42 (dk_at dksX0_call_2 0 rfl rfl)
theorem dX0_call_53 : decode cX0_call 53 = .ok (.iload_n 3, 1) := dk_29 (dk_at dksX0_call_2 1 rfl rfl)
theorem dX0_call_54 : decode cX0_call 54 = .ok (.iload_n 2, 1) := dk_28 (dk_at dksX0_call_2 2 rfl rfl)
theorem dX0_call_55 : decode cX0_call 55 = .ok (.iconst 5, 1) := dk_8 (dk_at dksX0_call_2 3 rfl rfl)
theorem dX0_call_56 : decode cX0_call 56 = .ok (.ishr, 1) := dk_122 (dk_at dksX0_call_2 4 rfl rfl)
theorem dX0_call_57 : decode cX0_call 57 = .ok (.invokevirtual 43, 3) := dk_182 0 43 (dk_at dksX0_call_2 5 rfl rfl)
theorem dX0_call_60 : decode cX0_call 60 = .ok (.aload_n 1, 1) := dk_43 (dk_at dksX0_call_2 8 rfl rfl)
theorem dX0_call_61 : decode cX0_call 61 = .ok (.getfield 40, 3) := dk_180 0 40 (dk_at dksX0_call_2 9 rfl rfl)
theorem dX0_call_64 : decode cX0_call 64 = .ok (.iload_n 3, 1) := dk_29 (dk_at dksX0_call_2 12 rfl rfl)
theorem dX0_call_65 : decode cX0_call 65 = .ok (.iconst 3, 1) := dk_6 (dk_at dksX0_call_2 13 rfl rfl)
theorem dX0_call_66 : decode cX0_call 66 = .ok (.iand, 1) := dk_126 (dk_at dksX0_call_2 14 rfl rfl)
theorem dX0_call_67 : decode cX0_call 67 = .ok (.iload_n 2, 1) := dk_28 (dk_at dksX0_call_2 15 rfl rfl)
theorem dX0_call_68 : decode cX0_call 68 = .ok (.iconst 5, 1) := dk_8 (dk_at dksX0_call_2 16 rfl rfl)
theorem dX0_call_69 : decode cX0_call 69 = .ok (.ishr, 1) := dk_122 (dk_at dksX0_call_2 17 rfl rfl)
theorem dX0_call_70 : decode cX0_call 70 = .ok (.sipush 255, 3) := dk_17 0 255 (dk_at dksX0_call_2 18 rfl rfl)
theorem dX0_call_73 : decode cX0_call 73 = .ok (.iand, 1) := dk_126 (dk_at dksX0_call_2 21 rfl rfl)
theorem dX0_call_74 : decode cX0_call 74 = .ok (.iastore, 1) := dk_79 (dk_at dksX0_call_2 22 rfl rfl)
theorem dX0_call_75 : decode cX0_call 75 = .ok (.iconst 1, 1) := dk_4 (dk_at dksX0_call_2 23 rfl rfl)
theorem dX0_call_76 : decode cX0_call 76 = .ok (.ireturn, 1) := dk_172 (dk_at dksX0_call_3 0 rfl rfl)
theorem dX0_call_77 : decode cX0_call 77 = .ok (.aload_n 0, 1) := dk_42 (dk_at dksX0_call_3 1 rfl rfl)
theorem dX0_call_78 : decode cX0_call 78 = .ok (.aload_n 1, 1) := dk_43 (dk_at dksX0_call_3 2 rfl rfl)
theorem dX0_call_79 : decode cX0_call 79 = .ok (.invokestatic 47, 3) := dk_184 0 47 (dk_at dksX0_call_3 3 rfl rfl)
theorem dX0_call_82 : decode cX0_call 82 = .ok (.iconst 1, 1) := dk_4 (dk_at dksX0_call_3 6 rfl rfl)
theorem dX0_call_83 : decode cX0_call 83 = .ok (.ireturn, 1) := dk_172 (dk_at dksX0_call_3 7 rfl rfl)
theorem dX0_call_84 : decode cX0_call 84 = .ok (.aload_n 0, 1) := dk_42 (dk_at dksX0_call_3 8 rfl rfl)
theorem dX0_call_85 : decode cX0_call 85 = .ok (.aload_n 1, 1) := dk_43 (dk_at dksX0_call_3 9 rfl rfl)
theorem dX0_call_86 : decode cX0_call 86 = .ok (.iload_n 3, 1) := dk_29 (dk_at dksX0_call_3 10 rfl rfl)
theorem dX0_call_87 : decode cX0_call 87 = .ok (.invokestatic 34, 3) := dk_184 0 34 (dk_at dksX0_call_3 11 rfl rfl)
theorem dX0_call_90 : decode cX0_call 90 = .ok (.ireturn, 1) := dk_172 (dk_at dksX0_call_3 14 rfl rfl)
theorem dX0_call_91 : decode cX0_call 91 = .ok (.aload_n 0, 1) := dk_42 (dk_at dksX0_call_3 15 rfl rfl)
theorem dX0_call_92 : decode cX0_call 92 = .ok (.aload_n 1, 1) := dk_43 (dk_at dksX0_call_3 16 rfl rfl)
theorem dX0_call_93 : decode cX0_call 93 = .ok (.iload_n 2, 1) := dk_28 (dk_at dksX0_call_3 17 rfl rfl)
theorem dX0_call_94 : decode cX0_call 94 = .ok (.bipush 8, 2) := dk_16 8 (dk_at dksX0_call_3 18 rfl rfl)
theorem dX0_call_96 : decode cX0_call 96 = .ok (.iushr, 1) := dk_124 (dk_at dksX0_call_3 20 rfl rfl)
theorem dX0_call_97 : decode cX0_call 97 = .ok (.iload_n 2, 1) := dk_28 (dk_at dksX0_call_3 21 rfl rfl)
theorem dX0_call_98 : decode cX0_call 98 = .ok (.bipush 20, 2) := dk_16 20 (dk_at dksX0_call_3 22 rfl rfl)
theorem dX0_call_100 : decode cX0_call 100 = .ok (.iushr, 1) := dk_124 (dk_at dksX0_call_4 0 rfl rfl)
theorem dX0_call_101 : decode cX0_call 101 = .ok (.iconst 1, 1) := dk_4 (dk_at dksX0_call_4 1 rfl rfl)
theorem dX0_call_102 : decode cX0_call 102 = .ok (.iload_n 3, 1) := dk_29 (dk_at dksX0_call_4 2 rfl rfl)
theorem dX0_call_103 : decode cX0_call 103 = .ok (.bipush 31, 2) := dk_16 31 (dk_at dksX0_call_4 3 rfl rfl)
theorem dX0_call_105 : decode cX0_call 105 = .ok (.iand, 1) := dk_126 (dk_at dksX0_call_4 5 rfl rfl)
theorem dX0_call_106 : decode cX0_call 106 = .ok (.iadd, 1) := dk_96 (dk_at dksX0_call_4 6 rfl rfl)
theorem dX0_call_107 : decode cX0_call 107 = .ok (.invokestatic 50, 3) := dk_184 0 50 (dk_at dksX0_call_4 7 rfl rfl)
theorem dX0_call_110 : decode cX0_call 110 = .ok (.ireturn, 1) := dk_172 (dk_at dksX0_call_4 10 rfl rfl)
theorem dX0_call_111 : decode cX0_call 111 = .ok (.aload_n 0, 1) := dk_42 (dk_at dksX0_call_4 11 rfl rfl)
theorem dX0_call_112 : decode cX0_call 112 = .ok (.iload_n 3, 1) := dk_29 (dk_at dksX0_call_4 12 rfl rfl)
theorem dX0_call_113 : decode cX0_call 113 = .ok (.invokevirtual 54, 3) := dk_182 0 54 (dk_at dksX0_call_4 13 rfl rfl)
theorem dX0_call_116 : decode cX0_call 116 = .ok (.aload_n 1, 1) := dk_43 (dk_at dksX0_call_4 16 rfl rfl)
theorem dX0_call_117 : decode cX0_call 117 = .ok (.iload_n 3, 1) := dk_29 (dk_at dksX0_call_4 17 rfl rfl)
theorem dX0_call_118 : decode cX0_call 118 = .ok (.ldc 27, 2) := dk_18 27 (dk_at dksX0_call_4 18 rfl rfl)
theorem dX0_call_120 : decode cX0_call 120 = .ok (.iand, 1) := dk_126 (dk_at dksX0_call_4 20 rfl rfl)
theorem dX0_call_121 : decode cX0_call 121 = .ok (.sipush 1536, 3) := dk_17 6 0 (dk_at dksX0_call_4 21 rfl rfl)
theorem dX0_call_124 : decode cX0_call 124 = .ok (.irem, 1) := dk_112 (dk_at dksX0_call_5 0 rfl rfl)
theorem dX0_call_125 : decode cX0_call 125 = .ok (.invokestatic 58, 3) := dk_184 0 58 (dk_at dksX0_call_5 1 rfl rfl)
theorem dX0_call_128 : decode cX0_call 128 = .ok (.if_icmp .ne 7, 3) := dk_160 0 7 (dk_at dksX0_call_5 4 rfl rfl)
theorem dX0_call_131 : decode cX0_call 131 = .ok (.iconst 1, 1) := dk_4 (dk_at dksX0_call_5 7 rfl rfl)
theorem dX0_call_132 : decode cX0_call 132 = .ok (.goto 4, 3) := dk_167 0 4 (dk_at dksX0_call_5 8 rfl rfl)
theorem dX0_call_135 : decode cX0_call 135 = .ok (.iconst 0, 1) := dk_3 (dk_at dksX0_call_5 11 rfl rfl)
theorem dX0_call_136 : decode cX0_call 136 = .ok (.ireturn, 1) := dk_172 (dk_at dksX0_call_5 12 rfl rfl)
theorem dX0_call_137 : decode cX0_call 137 = .ok (.aload_n 0, 1) := dk_42 (dk_at dksX0_call_5 13 rfl rfl)
theorem dX0_call_138 : decode cX0_call 138 = .ok (.invokevirtual 61, 3) := dk_182 0 61 (dk_at dksX0_call_5 14 rfl rfl)
theorem dX0_call_141 : decode cX0_call 141 = .ok (.aload_n 1, 1) := dk_43 (dk_at dksX0_call_5 17 rfl rfl)
theorem dX0_call_142 : decode cX0_call 142 = .ok (.getfield 7, 3) := dk_180 0 7 (dk_at dksX0_call_5 18 rfl rfl)
theorem dX0_call_145 : decode cX0_call 145 = .ok (.invokestatic 65, 3) := dk_184 0 65 (dk_at dksX0_call_5 21 rfl rfl)
theorem dX0_call_148 : decode cX0_call 148 = .ok (.if_icmp .ne 7, 3) := dk_160 0 7 (dk_at dksX0_call_6 0 rfl rfl)
theorem dX0_call_151 : decode cX0_call 151 = .ok (.iconst 1, 1) := dk_4 (dk_at dksX0_call_6 3 rfl rfl)
theorem dX0_call_152 : decode cX0_call 152 = .ok (.goto 4, 3) := dk_167 0 4 (dk_at dksX0_call_6 4 rfl rfl)
theorem dX0_call_155 : decode cX0_call 155 = .ok (.iconst 0, 1) := dk_3 (dk_at dksX0_call_6 7 rfl rfl)
theorem dX0_call_156 : decode cX0_call 156 = .ok (.ireturn, 1) := dk_172 (dk_at dksX0_call_6 8 rfl rfl)
theorem dX0_call_157 : decode cX0_call 157 = .ok (.aload_n 0, 1) := dk_42 (dk_at dksX0_call_6 9 rfl rfl)
theorem dX0_call_158 : decode cX0_call 158 = .ok (.iload_n 3, 1) := dk_29 (dk_at dksX0_call_6 10 rfl rfl)
theorem dX0_call_159 : decode cX0_call 159 = .ok (.invokevirtual 69, 3) := dk_182 0 69 (dk_at dksX0_call_6 11 rfl rfl)
theorem dX0_call_162 : decode cX0_call 162 = .ok (.aload_n 1, 1) := dk_43 (dk_at dksX0_call_6 14 rfl rfl)
theorem dX0_call_163 : decode cX0_call 163 = .ok (.getfield 40, 3) := dk_180 0 40 (dk_at dksX0_call_6 15 rfl rfl)
theorem dX0_call_166 : decode cX0_call 166 = .ok (.iload_n 3, 1) := dk_29 (dk_at dksX0_call_6 18 rfl rfl)
theorem dX0_call_167 : decode cX0_call 167 = .ok (.iconst 3, 1) := dk_6 (dk_at dksX0_call_6 19 rfl rfl)
theorem dX0_call_168 : decode cX0_call 168 = .ok (.iand, 1) := dk_126 (dk_at dksX0_call_6 20 rfl rfl)
theorem dX0_call_169 : decode cX0_call 169 = .ok (.iaload, 1) := dk_46 (dk_at dksX0_call_6 21 rfl rfl)
theorem dX0_call_170 : decode cX0_call 170 = .ok (.if_icmp .ne 7, 3) := dk_160 0 7 (dk_at dksX0_call_7 0 rfl rfl)
theorem dX0_call_173 : decode cX0_call 173 = .ok (.iconst 1, 1) := dk_4 (dk_at dksX0_call_7 3 rfl rfl)
theorem dX0_call_174 : decode cX0_call 174 = .ok (.goto 4, 3) := dk_167 0 4 (dk_at dksX0_call_7 4 rfl rfl)
theorem dX0_call_177 : decode cX0_call 177 = .ok (.iconst 0, 1) := dk_3 (dk_at dksX0_call_7 7 rfl rfl)
theorem dX0_call_178 : decode cX0_call 178 = .ok (.ireturn, 1) := dk_172 (dk_at dksX0_call_7 8 rfl rfl)
abbrev cX0_bit : ByteArray := method_4_code
def yX0_bit : MethodName := ⟨RX0, "bit", "(LInnerCodeLaw$Told;I)I"⟩
def dkwX0_bit_1 : List UInt8 := [153, 0, 7, 4, 167, 0, 4, 3, 130, 172]
abbrev dktX0_bit_1 : List UInt8 := dkwX0_bit_1 ++ []
def dkwX0_bit_0 : List UInt8 := [42, 180, 0, 7, 27, 17, 1, 128, 108, 46, 27, 17, 0, 128, 112, 184, 0, 13, 42, 180, 0, 19, 27, 51]
abbrev dktX0_bit_0 : List UInt8 := dkwX0_bit_0 ++ dktX0_bit_1
theorem dksX0_bit_0 : cX0_bit.data.toList.drop 0 = dktX0_bit_0 := by decide +kernel
theorem dksX0_bit_1 : cX0_bit.data.toList.drop 24 = dktX0_bit_1 := dk_seg dksX0_bit_0 24 rfl rfl
theorem dX0_bit_0 : decode cX0_bit 0 = .ok (.aload_n 0, 1) := dk_42 (dk_at dksX0_bit_0 0 rfl rfl)
theorem dX0_bit_1 : decode cX0_bit 1 = .ok (.getfield 7, 3) := dk_180 0 7 (dk_at dksX0_bit_0 1 rfl rfl)
theorem dX0_bit_4 : decode cX0_bit 4 = .ok (.iload_n 1, 1) := dk_27 (dk_at dksX0_bit_0 4 rfl rfl)
theorem dX0_bit_5 : decode cX0_bit 5 = .ok (.sipush 384, 3) := dk_17 1 128 (dk_at dksX0_bit_0 5 rfl rfl)
theorem dX0_bit_8 : decode cX0_bit 8 = .ok (.idiv, 1) := dk_108 (dk_at dksX0_bit_0 8 rfl rfl)
theorem dX0_bit_9 : decode cX0_bit 9 = .ok (.iaload, 1) := dk_46 (dk_at dksX0_bit_0 9 rfl rfl)
theorem dX0_bit_10 : decode cX0_bit 10 = .ok (.iload_n 1, 1) := dk_27 (dk_at dksX0_bit_0 10 rfl rfl)
theorem dX0_bit_11 : decode cX0_bit 11 = .ok (.sipush 128, 3) := dk_17 0 128 (dk_at dksX0_bit_0 11 rfl rfl)
theorem dX0_bit_14 : decode cX0_bit 14 = .ok (.irem, 1) := dk_112 (dk_at dksX0_bit_0 14 rfl rfl)
theorem dX0_bit_15 : decode cX0_bit 15 = .ok (.invokestatic 13, 3) := dk_184 0 13 (dk_at dksX0_bit_0 15 rfl rfl)
theorem dX0_bit_18 : decode cX0_bit 18 = .ok (.aload_n 0, 1) := dk_42 (dk_at dksX0_bit_0 18 rfl rfl)
theorem dX0_bit_19 : decode cX0_bit 19 = .ok (.getfield 19, 3) := dk_180 0 19 (dk_at dksX0_bit_0 19 rfl rfl)
theorem dX0_bit_22 : decode cX0_bit 22 = .ok (.iload_n 1, 1) := dk_27 (dk_at dksX0_bit_0 22 rfl rfl)
theorem dX0_bit_23 : decode cX0_bit 23 = .ok (.baload, 1) := dk_51 (dk_at dksX0_bit_0 23 rfl rfl)
theorem dX0_bit_24 : decode cX0_bit 24 = .ok (.ifCond .eq 7, 3) := dk_153 0 7 (dk_at dksX0_bit_1 0 rfl rfl)
theorem dX0_bit_27 : decode cX0_bit 27 = .ok (.iconst 1, 1) := dk_4 (dk_at dksX0_bit_1 3 rfl rfl)
theorem dX0_bit_28 : decode cX0_bit 28 = .ok (.goto 4, 3) := dk_167 0 4 (dk_at dksX0_bit_1 4 rfl rfl)
theorem dX0_bit_31 : decode cX0_bit 31 = .ok (.iconst 0, 1) := dk_3 (dk_at dksX0_bit_1 7 rfl rfl)
theorem dX0_bit_32 : decode cX0_bit 32 = .ok (.ixor, 1) := dk_130 (dk_at dksX0_bit_1 8 rfl rfl)
theorem dX0_bit_33 : decode cX0_bit 33 = .ok (.ireturn, 1) := dk_172 (dk_at dksX0_bit_1 9 rfl rfl)
abbrev cX0_due : ByteArray := method_3_code
def yX0_due : MethodName := ⟨RX0, "due", "(II)I"⟩
def dkwX0_due_1 : List UInt8 := [61, 132, 3, 1, 167, 255, 235, 28, 172]
abbrev dktX0_due_1 : List UInt8 := dkwX0_due_1 ++ []
def dkwX0_due_0 : List UInt8 := [26, 16, 7, 122, 61, 3, 62, 29, 16, 7, 162, 0, 21, 28, 26, 29, 122, 27, 29, 122, 126, 4, 126, 130]
abbrev dktX0_due_0 : List UInt8 := dkwX0_due_0 ++ dktX0_due_1
theorem dksX0_due_0 : cX0_due.data.toList.drop 0 = dktX0_due_0 := by decide +kernel
theorem dksX0_due_1 : cX0_due.data.toList.drop 24 = dktX0_due_1 := dk_seg dksX0_due_0 24 rfl rfl
theorem dX0_due_0 : decode cX0_due 0 = .ok (.iload_n 0, 1) := dk_26 (dk_at dksX0_due_0 0 rfl rfl)
theorem dX0_due_1 : decode cX0_due 1 = .ok (.bipush 7, 2) := dk_16 7 (dk_at dksX0_due_0 1 rfl rfl)
theorem dX0_due_3 : decode cX0_due 3 = .ok (.ishr, 1) := dk_122 (dk_at dksX0_due_0 3 rfl rfl)
theorem dX0_due_4 : decode cX0_due 4 = .ok (.istore_n 2, 1) := dk_61 (dk_at dksX0_due_0 4 rfl rfl)
theorem dX0_due_5 : decode cX0_due 5 = .ok (.iconst 0, 1) := dk_3 (dk_at dksX0_due_0 5 rfl rfl)
theorem dX0_due_6 : decode cX0_due 6 = .ok (.istore_n 3, 1) := dk_62 (dk_at dksX0_due_0 6 rfl rfl)
theorem dX0_due_7 : decode cX0_due 7 = .ok (.iload_n 3, 1) := dk_29 (dk_at dksX0_due_0 7 rfl rfl)
theorem dX0_due_8 : decode cX0_due 8 = .ok (.bipush 7, 2) := dk_16 7 (dk_at dksX0_due_0 8 rfl rfl)
theorem dX0_due_10 : decode cX0_due 10 = .ok (.if_icmp .ge 21, 3) := dk_162 0 21 (dk_at dksX0_due_0 10 rfl rfl)
theorem dX0_due_13 : decode cX0_due 13 = .ok (.iload_n 2, 1) := dk_28 (dk_at dksX0_due_0 13 rfl rfl)
theorem dX0_due_14 : decode cX0_due 14 = .ok (.iload_n 0, 1) := dk_26 (dk_at dksX0_due_0 14 rfl rfl)
theorem dX0_due_15 : decode cX0_due 15 = .ok (.iload_n 3, 1) := dk_29 (dk_at dksX0_due_0 15 rfl rfl)
theorem dX0_due_16 : decode cX0_due 16 = .ok (.ishr, 1) := dk_122 (dk_at dksX0_due_0 16 rfl rfl)
theorem dX0_due_17 : decode cX0_due 17 = .ok (.iload_n 1, 1) := dk_27 (dk_at dksX0_due_0 17 rfl rfl)
theorem dX0_due_18 : decode cX0_due 18 = .ok (.iload_n 3, 1) := dk_29 (dk_at dksX0_due_0 18 rfl rfl)
theorem dX0_due_19 : decode cX0_due 19 = .ok (.ishr, 1) := dk_122 (dk_at dksX0_due_0 19 rfl rfl)
theorem dX0_due_20 : decode cX0_due 20 = .ok (.iand, 1) := dk_126 (dk_at dksX0_due_0 20 rfl rfl)
theorem dX0_due_21 : decode cX0_due 21 = .ok (.iconst 1, 1) := dk_4 (dk_at dksX0_due_0 21 rfl rfl)
theorem dX0_due_22 : decode cX0_due 22 = .ok (.iand, 1) := dk_126 (dk_at dksX0_due_0 22 rfl rfl)
theorem dX0_due_23 : decode cX0_due 23 = .ok (.ixor, 1) := dk_130 (dk_at dksX0_due_0 23 rfl rfl)
theorem dX0_due_24 : decode cX0_due 24 = .ok (.istore_n 2, 1) := dk_61 (dk_at dksX0_due_1 0 rfl rfl)
theorem dX0_due_25 : decode cX0_due 25 = .ok (.iinc 3 1, 3) := dk_132 3 1 (dk_at dksX0_due_1 1 rfl rfl)
theorem dX0_due_28 : decode cX0_due 28 = .ok (.goto (-21), 3) := dk_167 255 235 (dk_at dksX0_due_1 4 rfl rfl)
theorem dX0_due_31 : decode cX0_due 31 = .ok (.iload_n 2, 1) := dk_28 (dk_at dksX0_due_1 7 rfl rfl)
theorem dX0_due_32 : decode cX0_due 32 = .ok (.ireturn, 1) := dk_172 (dk_at dksX0_due_1 8 rfl rfl)
abbrev cX0_packed : ByteArray := method_5_code
def yX0_packed : MethodName := ⟨RX0, "packed", "([I)I"⟩
def dkwX0_packed_1 : List UInt8 := [172]
abbrev dktX0_packed_1 : List UInt8 := dkwX0_packed_1 ++ []
def dkwX0_packed_0 : List UInt8 := [42, 3, 46, 16, 24, 120, 42, 4, 46, 16, 16, 120, 128, 42, 5, 46, 16, 8, 120, 128, 42, 6, 46, 128]
abbrev dktX0_packed_0 : List UInt8 := dkwX0_packed_0 ++ dktX0_packed_1
theorem dksX0_packed_0 : cX0_packed.data.toList.drop 0 = dktX0_packed_0 := by decide +kernel
theorem dksX0_packed_1 : cX0_packed.data.toList.drop 24 = dktX0_packed_1 := dk_seg dksX0_packed_0 24 rfl rfl
theorem dX0_packed_0 : decode cX0_packed 0 = .ok (.aload_n 0, 1) := dk_42 (dk_at dksX0_packed_0 0 rfl rfl)
theorem dX0_packed_1 : decode cX0_packed 1 = .ok (.iconst 0, 1) := dk_3 (dk_at dksX0_packed_0 1 rfl rfl)
theorem dX0_packed_2 : decode cX0_packed 2 = .ok (.iaload, 1) := dk_46 (dk_at dksX0_packed_0 2 rfl rfl)
theorem dX0_packed_3 : decode cX0_packed 3 = .ok (.bipush 24, 2) := dk_16 24 (dk_at dksX0_packed_0 3 rfl rfl)
theorem dX0_packed_5 : decode cX0_packed 5 = .ok (.ishl, 1) := dk_120 (dk_at dksX0_packed_0 5 rfl rfl)
theorem dX0_packed_6 : decode cX0_packed 6 = .ok (.aload_n 0, 1) := dk_42 (dk_at dksX0_packed_0 6 rfl rfl)
theorem dX0_packed_7 : decode cX0_packed 7 = .ok (.iconst 1, 1) := dk_4 (dk_at dksX0_packed_0 7 rfl rfl)
theorem dX0_packed_8 : decode cX0_packed 8 = .ok (.iaload, 1) := dk_46 (dk_at dksX0_packed_0 8 rfl rfl)
theorem dX0_packed_9 : decode cX0_packed 9 = .ok (.bipush 16, 2) := dk_16 16 (dk_at dksX0_packed_0 9 rfl rfl)
theorem dX0_packed_11 : decode cX0_packed 11 = .ok (.ishl, 1) := dk_120 (dk_at dksX0_packed_0 11 rfl rfl)
theorem dX0_packed_12 : decode cX0_packed 12 = .ok (.ior, 1) := dk_128 (dk_at dksX0_packed_0 12 rfl rfl)
theorem dX0_packed_13 : decode cX0_packed 13 = .ok (.aload_n 0, 1) := dk_42 (dk_at dksX0_packed_0 13 rfl rfl)
theorem dX0_packed_14 : decode cX0_packed 14 = .ok (.iconst 2, 1) := dk_5 (dk_at dksX0_packed_0 14 rfl rfl)
theorem dX0_packed_15 : decode cX0_packed 15 = .ok (.iaload, 1) := dk_46 (dk_at dksX0_packed_0 15 rfl rfl)
theorem dX0_packed_16 : decode cX0_packed 16 = .ok (.bipush 8, 2) := dk_16 8 (dk_at dksX0_packed_0 16 rfl rfl)
theorem dX0_packed_18 : decode cX0_packed 18 = .ok (.ishl, 1) := dk_120 (dk_at dksX0_packed_0 18 rfl rfl)
theorem dX0_packed_19 : decode cX0_packed 19 = .ok (.ior, 1) := dk_128 (dk_at dksX0_packed_0 19 rfl rfl)
theorem dX0_packed_20 : decode cX0_packed 20 = .ok (.aload_n 0, 1) := dk_42 (dk_at dksX0_packed_0 20 rfl rfl)
theorem dX0_packed_21 : decode cX0_packed 21 = .ok (.iconst 3, 1) := dk_6 (dk_at dksX0_packed_0 21 rfl rfl)
theorem dX0_packed_22 : decode cX0_packed 22 = .ok (.iaload, 1) := dk_46 (dk_at dksX0_packed_0 22 rfl rfl)
theorem dX0_packed_23 : decode cX0_packed 23 = .ok (.ior, 1) := dk_128 (dk_at dksX0_packed_0 23 rfl rfl)
theorem dX0_packed_24 : decode cX0_packed 24 = .ok (.ireturn, 1) := dk_172 (dk_at dksX0_packed_1 0 rfl rfl)
abbrev cX0_stand : ByteArray := method_10_code
def yX0_stand : MethodName := ⟨RX0, "stand", "(LInnerCode;LInnerCodeLaw$Told;)Z"⟩
def dkwX0_stand_3 : List UInt8 := [132, 2, 1, 167, 255, 232, 4, 172]
abbrev dktX0_stand_3 : List UInt8 := dkwX0_stand_3 ++ []
def dkwX0_stand_2 : List UInt8 := [3, 61, 28, 7, 162, 0, 25, 42, 28, 182, 0, 69, 43, 180, 0, 40, 28, 46, 159, 0, 5, 3, 172]
abbrev dktX0_stand_2 : List UInt8 := dkwX0_stand_2 ++ dktX0_stand_3
def dkwX0_stand_1 : List UInt8 := [162, 0, 24, 42, 28, 182, 0, 54, 43, 28, 184, 0, 58, 159, 0, 5, 3, 172, 132, 2, 1, 167, 255, 231]
abbrev dktX0_stand_1 : List UInt8 := dkwX0_stand_1 ++ dktX0_stand_2
def dkwX0_stand_0 : List UInt8 := [42, 182, 0, 61, 43, 180, 0, 7, 184, 0, 65, 159, 0, 5, 3, 172, 3, 61, 28, 17, 6, 0]
abbrev dktX0_stand_0 : List UInt8 := dkwX0_stand_0 ++ dktX0_stand_1
theorem dksX0_stand_0 : cX0_stand.data.toList.drop 0 = dktX0_stand_0 := by decide +kernel
theorem dksX0_stand_1 : cX0_stand.data.toList.drop 22 = dktX0_stand_1 := dk_seg dksX0_stand_0 22 rfl rfl
theorem dksX0_stand_2 : cX0_stand.data.toList.drop 46 = dktX0_stand_2 := dk_seg dksX0_stand_1 24 rfl rfl
theorem dksX0_stand_3 : cX0_stand.data.toList.drop 69 = dktX0_stand_3 := dk_seg dksX0_stand_2 23 rfl rfl
theorem dX0_stand_0 : decode cX0_stand 0 = .ok (.aload_n 0, 1) := dk_42 (dk_at dksX0_stand_0 0 rfl rfl)
theorem dX0_stand_1 : decode cX0_stand 1 = .ok (.invokevirtual 61, 3) := dk_182 0 61 (dk_at dksX0_stand_0 1 rfl rfl)
theorem dX0_stand_4 : decode cX0_stand 4 = .ok (.aload_n 1, 1) := dk_43 (dk_at dksX0_stand_0 4 rfl rfl)
theorem dX0_stand_5 : decode cX0_stand 5 = .ok (.getfield 7, 3) := dk_180 0 7 (dk_at dksX0_stand_0 5 rfl rfl)
theorem dX0_stand_8 : decode cX0_stand 8 = .ok (.invokestatic 65, 3) := dk_184 0 65 (dk_at dksX0_stand_0 8 rfl rfl)
theorem dX0_stand_11 : decode cX0_stand 11 = .ok (.if_icmp .eq 5, 3) := dk_159 0 5 (dk_at dksX0_stand_0 11 rfl rfl)
theorem dX0_stand_14 : decode cX0_stand 14 = .ok (.iconst 0, 1) := dk_3 (dk_at dksX0_stand_0 14 rfl rfl)
theorem dX0_stand_15 : decode cX0_stand 15 = .ok (.ireturn, 1) := dk_172 (dk_at dksX0_stand_0 15 rfl rfl)
theorem dX0_stand_16 : decode cX0_stand 16 = .ok (.iconst 0, 1) := dk_3 (dk_at dksX0_stand_0 16 rfl rfl)
theorem dX0_stand_17 : decode cX0_stand 17 = .ok (.istore_n 2, 1) := dk_61 (dk_at dksX0_stand_0 17 rfl rfl)
theorem dX0_stand_18 : decode cX0_stand 18 = .ok (.iload_n 2, 1) := dk_28 (dk_at dksX0_stand_0 18 rfl rfl)
theorem dX0_stand_19 : decode cX0_stand 19 = .ok (.sipush 1536, 3) := dk_17 6 0 (dk_at dksX0_stand_0 19 rfl rfl)
theorem dX0_stand_22 : decode cX0_stand 22 = .ok (.if_icmp .ge 24, 3) := dk_162 0 24 (dk_at dksX0_stand_1 0 rfl rfl)
theorem dX0_stand_25 : decode cX0_stand 25 = .ok (.aload_n 0, 1) := dk_42 (dk_at dksX0_stand_1 3 rfl rfl)
theorem dX0_stand_26 : decode cX0_stand 26 = .ok (.iload_n 2, 1) := dk_28 (dk_at dksX0_stand_1 4 rfl rfl)
theorem dX0_stand_27 : decode cX0_stand 27 = .ok (.invokevirtual 54, 3) := dk_182 0 54 (dk_at dksX0_stand_1 5 rfl rfl)
theorem dX0_stand_30 : decode cX0_stand 30 = .ok (.aload_n 1, 1) := dk_43 (dk_at dksX0_stand_1 8 rfl rfl)
theorem dX0_stand_31 : decode cX0_stand 31 = .ok (.iload_n 2, 1) := dk_28 (dk_at dksX0_stand_1 9 rfl rfl)
theorem dX0_stand_32 : decode cX0_stand 32 = .ok (.invokestatic 58, 3) := dk_184 0 58 (dk_at dksX0_stand_1 10 rfl rfl)
theorem dX0_stand_35 : decode cX0_stand 35 = .ok (.if_icmp .eq 5, 3) := dk_159 0 5 (dk_at dksX0_stand_1 13 rfl rfl)
theorem dX0_stand_38 : decode cX0_stand 38 = .ok (.iconst 0, 1) := dk_3 (dk_at dksX0_stand_1 16 rfl rfl)
theorem dX0_stand_39 : decode cX0_stand 39 = .ok (.ireturn, 1) := dk_172 (dk_at dksX0_stand_1 17 rfl rfl)
theorem dX0_stand_40 : decode cX0_stand 40 = .ok (.iinc 2 1, 3) := dk_132 2 1 (dk_at dksX0_stand_1 18 rfl rfl)
theorem dX0_stand_43 : decode cX0_stand 43 = .ok (.goto (-25), 3) := dk_167 255 231 (dk_at dksX0_stand_1 21 rfl rfl)
theorem dX0_stand_46 : decode cX0_stand 46 = .ok (.iconst 0, 1) := dk_3 (dk_at dksX0_stand_2 0 rfl rfl)
theorem dX0_stand_47 : decode cX0_stand 47 = .ok (.istore_n 2, 1) := dk_61 (dk_at dksX0_stand_2 1 rfl rfl)
theorem dX0_stand_48 : decode cX0_stand 48 = .ok (.iload_n 2, 1) := dk_28 (dk_at dksX0_stand_2 2 rfl rfl)
theorem dX0_stand_49 : decode cX0_stand 49 = .ok (.iconst 4, 1) := dk_7 (dk_at dksX0_stand_2 3 rfl rfl)
theorem dX0_stand_50 : decode cX0_stand 50 = .ok (.if_icmp .ge 25, 3) := dk_162 0 25 (dk_at dksX0_stand_2 4 rfl rfl)
theorem dX0_stand_53 : decode cX0_stand 53 = .ok (.aload_n 0, 1) := dk_42 (dk_at dksX0_stand_2 7 rfl rfl)
theorem dX0_stand_54 : decode cX0_stand 54 = .ok (.iload_n 2, 1) := dk_28 (dk_at dksX0_stand_2 8 rfl rfl)
theorem dX0_stand_55 : decode cX0_stand 55 = .ok (.invokevirtual 69, 3) := dk_182 0 69 (dk_at dksX0_stand_2 9 rfl rfl)
theorem dX0_stand_58 : decode cX0_stand 58 = .ok (.aload_n 1, 1) := dk_43 (dk_at dksX0_stand_2 12 rfl rfl)
theorem dX0_stand_59 : decode cX0_stand 59 = .ok (.getfield 40, 3) := dk_180 0 40 (dk_at dksX0_stand_2 13 rfl rfl)
theorem dX0_stand_62 : decode cX0_stand 62 = .ok (.iload_n 2, 1) := dk_28 (dk_at dksX0_stand_2 16 rfl rfl)
theorem dX0_stand_63 : decode cX0_stand 63 = .ok (.iaload, 1) := dk_46 (dk_at dksX0_stand_2 17 rfl rfl)
theorem dX0_stand_64 : decode cX0_stand 64 = .ok (.if_icmp .eq 5, 3) := dk_159 0 5 (dk_at dksX0_stand_2 18 rfl rfl)
theorem dX0_stand_67 : decode cX0_stand 67 = .ok (.iconst 0, 1) := dk_3 (dk_at dksX0_stand_2 21 rfl rfl)
theorem dX0_stand_68 : decode cX0_stand 68 = .ok (.ireturn, 1) := dk_172 (dk_at dksX0_stand_2 22 rfl rfl)
theorem dX0_stand_69 : decode cX0_stand 69 = .ok (.iinc 2 1, 3) := dk_132 2 1 (dk_at dksX0_stand_3 0 rfl rfl)
theorem dX0_stand_72 : decode cX0_stand 72 = .ok (.goto (-24), 3) := dk_167 255 232 (dk_at dksX0_stand_3 3 rfl rfl)
theorem dX0_stand_75 : decode cX0_stand 75 = .ok (.iconst 1, 1) := dk_4 (dk_at dksX0_stand_3 6 rfl rfl)
theorem dX0_stand_76 : decode cX0_stand 76 = .ok (.ireturn, 1) := dk_172 (dk_at dksX0_stand_3 7 rfl rfl)
theorem q0 : (Jvm.Cond.initialized "InnerCodeLaw") ∈ lw_all := lw_g (lw_at lw_m0 0 rfl) rfl
theorem q6 : (Jvm.Cond.classLink "InnerCodeLaw" (29 : Nat) "InnerCode") ∈ lw_all := lw_g (lw_at lw_m0 6 rfl) rfl
theorem q8 : (Jvm.Cond.methodLink "InnerCodeLaw" (71 : Nat) ({ cls := "InnerCode", name := "<init>", desc := "()V" } : Jvm.MethodName)) ∈ lw_all := lw_g (lw_at lw_m0 8 rfl) rfl
theorem q29 : (Jvm.Cond.methodLink "InnerCodeLaw" (28 : Nat) ({ cls := "InnerCode", name := "harm", desc := "(I)Z" } : Jvm.MethodName)) ∈ lw_all := lw_g (lw_at lw_m0 29 rfl) rfl
theorem q34 : (Jvm.Cond.classLink "InnerCodeLaw" (8 : Nat) "InnerCodeLaw$Told") ∈ lw_all := lw_g (lw_at lw_m0 34 rfl) rfl
theorem q36 : (Jvm.Cond.methodLink "InnerCodeLaw" (72 : Nat) ({ cls := "InnerCodeLaw$Told", name := "<init>", desc := "()V" } : Jvm.MethodName)) ∈ lw_all := lw_g (lw_at lw_m0 36 rfl) rfl
theorem q41 : (Jvm.Cond.fieldLink "InnerCodeLaw" (40 : Nat) "InnerCodeLaw$Told" "letters" "[I") ∈ lw_all := lw_g (lw_at lw_m0 41 rfl) rfl
theorem q43 : (Jvm.Cond.fieldLink "InnerCodeLaw" (7 : Nat) "InnerCodeLaw$Told" "written" "[I") ∈ lw_all := lw_g (lw_at lw_m0 43 rfl) rfl
theorem q45 : (Jvm.Cond.fieldLink "InnerCodeLaw" (19 : Nat) "InnerCodeLaw$Told" "turned" "[Z") ∈ lw_all := lw_g (lw_at lw_m0 45 rfl) rfl
theorem q46 : (Jvm.Cond.fieldLink "InnerCodeLaw" (23 : Nat) "InnerCodeLaw$Told" "harmed" "I") ∈ lw_all := lw_g (lw_at lw_m0 46 rfl) rfl
theorem q58 : (Jvm.Cond.methodLink "InnerCodeLaw" (73 : Nat) ({ cls := "InnerCodeLaw", name := "cell", desc := "([II)I" } : Jvm.MethodName)) ∈ lw_all := lw_g (lw_at lw_m0 58 rfl) rfl
theorem q59 : (Jvm.Cond.static ({ cls := "InnerCodeLaw", name := "cell", desc := "([II)I" } : Jvm.MethodName)) ∈ lw_all := lw_g (lw_at lw_m0 59 rfl) rfl
theorem q60 : (Jvm.Cond.code ({ cls := "InnerCodeLaw", name := "cell", desc := "([II)I" } : Jvm.MethodName) method_2_code (2 : Nat) (Option.some Jvm.ClassFile.FieldType.int)) ∈ lw_all := lw_g (lw_at lw_m0 60 rfl) rfl
theorem q61 : (Jvm.Cond.methodLink "InnerCodeLaw" (50 : Nat) ({ cls := "InnerCodeLaw", name := "burst", desc := "(LInnerCode;LInnerCodeLaw$Told;III)Z" } : Jvm.MethodName)) ∈ lw_all := lw_g (lw_at lw_m0 61 rfl) rfl
theorem q62 : (Jvm.Cond.static ({ cls := "InnerCodeLaw", name := "burst", desc := "(LInnerCode;LInnerCodeLaw$Told;III)Z" } : Jvm.MethodName)) ∈ lw_all := lw_g (lw_at lw_m0 62 rfl) rfl
theorem q63 : (Jvm.Cond.code ({ cls := "InnerCodeLaw", name := "burst", desc := "(LInnerCode;LInnerCodeLaw$Told;III)Z" } : Jvm.MethodName) method_7_code (6 : Nat) (Option.some Jvm.ClassFile.FieldType.boolean)) ∈ lw_all := lw_g (lw_at lw_m0 63 rfl) rfl
theorem q64 : (Jvm.Cond.methodLink "InnerCodeLaw" (34 : Nat) ({ cls := "InnerCodeLaw", name := "harm", desc := "(LInnerCode;LInnerCodeLaw$Told;I)Z" } : Jvm.MethodName)) ∈ lw_all := lw_g (lw_at lw_m0 64 rfl) rfl
theorem q65 : (Jvm.Cond.static ({ cls := "InnerCodeLaw", name := "harm", desc := "(LInnerCode;LInnerCodeLaw$Told;I)Z" } : Jvm.MethodName)) ∈ lw_all := lw_g (lw_at lw_m0 65 rfl) rfl
theorem q66 : (Jvm.Cond.code ({ cls := "InnerCodeLaw", name := "harm", desc := "(LInnerCode;LInnerCodeLaw$Told;I)Z" } : Jvm.MethodName) method_6_code (5 : Nat) (Option.some Jvm.ClassFile.FieldType.boolean)) ∈ lw_all := lw_g (lw_at lw_m0 66 rfl) rfl
theorem q67 : (Jvm.Cond.constant "InnerCodeLaw" (27 : Nat) (2147483647 : Int32)) ∈ lw_all := lw_g (lw_at lw_m0 67 rfl) rfl
theorem q68 : (Jvm.Cond.methodLink "InnerCodeLaw" (47 : Nat) ({ cls := "InnerCodeLaw", name := "write", desc := "(LInnerCode;LInnerCodeLaw$Told;)V" } : Jvm.MethodName)) ∈ lw_all := lw_g (lw_at lw_m0 68 rfl) rfl
theorem q69 : (Jvm.Cond.static ({ cls := "InnerCodeLaw", name := "write", desc := "(LInnerCode;LInnerCodeLaw$Told;)V" } : Jvm.MethodName)) ∈ lw_all := lw_g (lw_at lw_m0 69 rfl) rfl
theorem q70 : (Jvm.Cond.code ({ cls := "InnerCodeLaw", name := "write", desc := "(LInnerCode;LInnerCodeLaw$Told;)V" } : Jvm.MethodName) method_8_code (3 : Nat) (Option.none : Option Jvm.ClassFile.FieldType)) ∈ lw_all := lw_g (lw_at lw_m0 70 rfl) rfl
theorem q71 : (Jvm.Cond.methodLink "InnerCodeLaw" (37 : Nat) ({ cls := "InnerCode", name := "write", desc := "()V" } : Jvm.MethodName)) ∈ lw_all := lw_g (lw_at lw_m0 71 rfl) rfl
theorem q90 : (Jvm.Cond.methodLink "InnerCodeLaw" (77 : Nat) ({ cls := "InnerCodeLaw", name := "call", desc := "(LInnerCode;LInnerCodeLaw$Told;I)Z" } : Jvm.MethodName)) ∈ lw_all := lw_g (lw_at lw_m0 90 rfl) rfl
theorem q91 : (Jvm.Cond.static ({ cls := "InnerCodeLaw", name := "call", desc := "(LInnerCode;LInnerCodeLaw$Told;I)Z" } : Jvm.MethodName)) ∈ lw_all := lw_g (lw_at lw_m0 91 rfl) rfl
theorem q92 : (Jvm.Cond.code ({ cls := "InnerCodeLaw", name := "call", desc := "(LInnerCode;LInnerCodeLaw$Told;I)Z" } : Jvm.MethodName) method_9_code (4 : Nat) (Option.some Jvm.ClassFile.FieldType.boolean)) ∈ lw_all := lw_g (lw_at lw_m0 92 rfl) rfl
theorem q93 : (Jvm.Cond.methodLink "InnerCodeLaw" (43 : Nat) ({ cls := "InnerCode", name := "letter", desc := "(II)V" } : Jvm.MethodName)) ∈ lw_all := lw_g (lw_at lw_m0 93 rfl) rfl
theorem q97 : (Jvm.Cond.methodLink "InnerCodeLaw" (54 : Nat) ({ cls := "InnerCode", name := "bit", desc := "(I)I" } : Jvm.MethodName)) ∈ lw_all := lw_g (lw_at lw_m0 97 rfl) rfl
theorem q101 : (Jvm.Cond.methodLink "InnerCodeLaw" (58 : Nat) ({ cls := "InnerCodeLaw", name := "bit", desc := "(LInnerCodeLaw$Told;I)I" } : Jvm.MethodName)) ∈ lw_all := lw_g (lw_at lw_m0 101 rfl) rfl
theorem q102 : (Jvm.Cond.static ({ cls := "InnerCodeLaw", name := "bit", desc := "(LInnerCodeLaw$Told;I)I" } : Jvm.MethodName)) ∈ lw_all := lw_g (lw_at lw_m0 102 rfl) rfl
theorem q103 : (Jvm.Cond.code ({ cls := "InnerCodeLaw", name := "bit", desc := "(LInnerCodeLaw$Told;I)I" } : Jvm.MethodName) method_4_code (2 : Nat) (Option.some Jvm.ClassFile.FieldType.int)) ∈ lw_all := lw_g (lw_at lw_m0 103 rfl) rfl
theorem q104 : (Jvm.Cond.methodLink "InnerCodeLaw" (13 : Nat) ({ cls := "InnerCodeLaw", name := "due", desc := "(II)I" } : Jvm.MethodName)) ∈ lw_all := lw_g (lw_at lw_m0 104 rfl) rfl
theorem q105 : (Jvm.Cond.static ({ cls := "InnerCodeLaw", name := "due", desc := "(II)I" } : Jvm.MethodName)) ∈ lw_all := lw_g (lw_at lw_m0 105 rfl) rfl
theorem q106 : (Jvm.Cond.code ({ cls := "InnerCodeLaw", name := "due", desc := "(II)I" } : Jvm.MethodName) method_3_code (4 : Nat) (Option.some Jvm.ClassFile.FieldType.int)) ∈ lw_all := lw_g (lw_at lw_m0 106 rfl) rfl
theorem q107 : (Jvm.Cond.methodLink "InnerCodeLaw" (61 : Nat) ({ cls := "InnerCode", name := "read", desc := "()I" } : Jvm.MethodName)) ∈ lw_all := lw_g (lw_at lw_m0 107 rfl) rfl
theorem q129 : (Jvm.Cond.methodLink "InnerCodeLaw" (65 : Nat) ({ cls := "InnerCodeLaw", name := "packed", desc := "([I)I" } : Jvm.MethodName)) ∈ lw_all := lw_g (lw_at lw_m0 129 rfl) rfl
theorem q130 : (Jvm.Cond.static ({ cls := "InnerCodeLaw", name := "packed", desc := "([I)I" } : Jvm.MethodName)) ∈ lw_all := lw_g (lw_at lw_m0 130 rfl) rfl
theorem q131 : (Jvm.Cond.code ({ cls := "InnerCodeLaw", name := "packed", desc := "([I)I" } : Jvm.MethodName) method_5_code (1 : Nat) (Option.some Jvm.ClassFile.FieldType.int)) ∈ lw_all := lw_g (lw_at lw_m0 131 rfl) rfl
theorem q132 : (Jvm.Cond.methodLink "InnerCodeLaw" (69 : Nat) ({ cls := "InnerCode", name := "letter", desc := "(I)I" } : Jvm.MethodName)) ∈ lw_all := lw_g (lw_at lw_m0 132 rfl) rfl
theorem q136 : (Jvm.Cond.methodLink "InnerCodeLaw" (80 : Nat) ({ cls := "InnerCodeLaw", name := "stand", desc := "(LInnerCode;LInnerCodeLaw$Told;)Z" } : Jvm.MethodName)) ∈ lw_all := lw_g (lw_at lw_m0 136 rfl) rfl
theorem q137 : (Jvm.Cond.static ({ cls := "InnerCodeLaw", name := "stand", desc := "(LInnerCode;LInnerCodeLaw$Told;)Z" } : Jvm.MethodName)) ∈ lw_all := lw_g (lw_at lw_m0 137 rfl) rfl
theorem q138 : (Jvm.Cond.code ({ cls := "InnerCodeLaw", name := "stand", desc := "(LInnerCode;LInnerCodeLaw$Told;)Z" } : Jvm.MethodName) method_10_code (3 : Nat) (Option.some Jvm.ClassFile.FieldType.boolean)) ∈ lw_all := lw_g (lw_at lw_m0 138 rfl) rfl
/-! the law's own entry -/
set_option maxRecDepth 100000
abbrev cL_law : ByteArray := code
def dkwL_law_4 : List UInt8 := [44, 184, 0, 80, 153, 0, 7, 4, 167, 0, 4, 3, 172]
abbrev dktL_law_4 : List UInt8 := dkwL_law_4 ++ []
def dkwL_law_3 : List UInt8 := [184, 0, 73, 16, 40, 184, 0, 50, 153, 0, 27, 43, 42, 5, 184, 0, 73, 182, 0, 28, 154, 0, 15, 43]
abbrev dktL_law_3 : List UInt8 := dkwL_law_3 ++ dktL_law_4
def dkwL_law_2 : List UInt8 := [184, 0, 80, 154, 0, 5, 3, 172, 43, 44, 184, 0, 47, 43, 44, 42, 3, 184, 0, 73, 42, 4]
abbrev dktL_law_2 : List UInt8 := dkwL_law_2 ++ dktL_law_3
def dkwL_law_1 : List UInt8 := [43, 44, 42, 29, 184, 0, 73, 184, 0, 77, 154, 0, 5, 3, 172, 132, 3, 1, 167, 255, 232, 43, 44]
abbrev dktL_law_1 : List UInt8 := dkwL_law_1 ++ dktL_law_2
def dkwL_law_0 : List UInt8 := [187, 0, 29, 89, 183, 0, 71, 76, 187, 0, 8, 89, 183, 0, 72, 77, 3, 62, 29, 16, 60, 162, 0, 24]
abbrev dktL_law_0 : List UInt8 := dkwL_law_0 ++ dktL_law_1
theorem dksL_law_0 : cL_law.data.toList.drop 0 = dktL_law_0 := by decide +kernel
theorem dksL_law_1 : cL_law.data.toList.drop 24 = dktL_law_1 := dk_seg dksL_law_0 24 rfl rfl
theorem dksL_law_2 : cL_law.data.toList.drop 47 = dktL_law_2 := dk_seg dksL_law_1 23 rfl rfl
theorem dksL_law_3 : cL_law.data.toList.drop 69 = dktL_law_3 := dk_seg dksL_law_2 22 rfl rfl
theorem dksL_law_4 : cL_law.data.toList.drop 93 = dktL_law_4 := dk_seg dksL_law_3 24 rfl rfl
theorem dL_law_0 : decode cL_law 0 = .ok (.new 29, 3) := dk_187 0 29 (dk_at dksL_law_0 0 rfl rfl)
theorem dL_law_3 : decode cL_law 3 = .ok (.dup, 1) := dk_89 (dk_at dksL_law_0 3 rfl rfl)
theorem dL_law_4 : decode cL_law 4 = .ok (.invokespecial 71, 3) := dk_183 0 71 (dk_at dksL_law_0 4 rfl rfl)
theorem dL_law_7 : decode cL_law 7 = .ok (.astore_n 1, 1) := dk_76 (dk_at dksL_law_0 7 rfl rfl)
theorem dL_law_8 : decode cL_law 8 = .ok (.new 8, 3) := dk_187 0 8 (dk_at dksL_law_0 8 rfl rfl)
theorem dL_law_11 : decode cL_law 11 = .ok (.dup, 1) := dk_89 (dk_at dksL_law_0 11 rfl rfl)
theorem dL_law_12 : decode cL_law 12 = .ok (.invokespecial 72, 3) := dk_183 0 72 (dk_at dksL_law_0 12 rfl rfl)
theorem dL_law_15 : decode cL_law 15 = .ok (.astore_n 2, 1) := dk_77 (dk_at dksL_law_0 15 rfl rfl)
theorem dL_law_16 : decode cL_law 16 = .ok (.iconst 0, 1) := dk_3 (dk_at dksL_law_0 16 rfl rfl)
theorem dL_law_17 : decode cL_law 17 = .ok (.istore_n 3, 1) := dk_62 (dk_at dksL_law_0 17 rfl rfl)
theorem dL_law_18 : decode cL_law 18 = .ok (.iload_n 3, 1) := dk_29 (dk_at dksL_law_0 18 rfl rfl)
theorem dL_law_19 : decode cL_law 19 = .ok (.bipush 60, 2) := dk_16 60 (dk_at dksL_law_0 19 rfl rfl)
theorem dL_law_21 : decode cL_law 21 = .ok (.if_icmp .ge 24, 3) := dk_162 0 24 (dk_at dksL_law_0 21 rfl rfl)
theorem dL_law_24 : decode cL_law 24 = .ok (.aload_n 1, 1) := dk_43 (dk_at dksL_law_1 0 rfl rfl)
theorem dL_law_25 : decode cL_law 25 = .ok (.aload_n 2, 1) := dk_44 (dk_at dksL_law_1 1 rfl rfl)
theorem dL_law_26 : decode cL_law 26 = .ok (.aload_n 0, 1) := dk_42 (dk_at dksL_law_1 2 rfl rfl)
theorem dL_law_27 : decode cL_law 27 = .ok (.iload_n 3, 1) := dk_29 (dk_at dksL_law_1 3 rfl rfl)
theorem dL_law_28 : decode cL_law 28 = .ok (.invokestatic 73, 3) := dk_184 0 73 (dk_at dksL_law_1 4 rfl rfl)
theorem dL_law_31 : decode cL_law 31 = .ok (.invokestatic 77, 3) := dk_184 0 77 (dk_at dksL_law_1 7 rfl rfl)
theorem dL_law_34 : decode cL_law 34 = .ok (.ifCond .ne 5, 3) := dk_154 0 5 (dk_at dksL_law_1 10 rfl rfl)
theorem dL_law_37 : decode cL_law 37 = .ok (.iconst 0, 1) := dk_3 (dk_at dksL_law_1 13 rfl rfl)
theorem dL_law_38 : decode cL_law 38 = .ok (.ireturn, 1) := dk_172 (dk_at dksL_law_1 14 rfl rfl)
theorem dL_law_39 : decode cL_law 39 = .ok (.iinc 3 1, 3) := dk_132 3 1 (dk_at dksL_law_1 15 rfl rfl)
theorem dL_law_42 : decode cL_law 42 = .ok (.goto (-24), 3) := dk_167 255 232 (dk_at dksL_law_1 18 rfl rfl)
theorem dL_law_45 : decode cL_law 45 = .ok (.aload_n 1, 1) := dk_43 (dk_at dksL_law_1 21 rfl rfl)
theorem dL_law_46 : decode cL_law 46 = .ok (.aload_n 2, 1) := dk_44 (dk_at dksL_law_1 22 rfl rfl)
theorem dL_law_47 : decode cL_law 47 = .ok (.invokestatic 80, 3) := dk_184 0 80 (dk_at dksL_law_2 0 rfl rfl)
theorem dL_law_50 : decode cL_law 50 = .ok (.ifCond .ne 5, 3) := dk_154 0 5 (dk_at dksL_law_2 3 rfl rfl)
theorem dL_law_53 : decode cL_law 53 = .ok (.iconst 0, 1) := dk_3 (dk_at dksL_law_2 6 rfl rfl)
theorem dL_law_54 : decode cL_law 54 = .ok (.ireturn, 1) := dk_172 (dk_at dksL_law_2 7 rfl rfl)
theorem dL_law_55 : decode cL_law 55 = .ok (.aload_n 1, 1) := dk_43 (dk_at dksL_law_2 8 rfl rfl)
theorem dL_law_56 : decode cL_law 56 = .ok (.aload_n 2, 1) := dk_44 (dk_at dksL_law_2 9 rfl rfl)
theorem dL_law_57 : decode cL_law 57 = .ok (.invokestatic 47, 3) := dk_184 0 47 (dk_at dksL_law_2 10 rfl rfl)
theorem dL_law_60 : decode cL_law 60 = .ok (.aload_n 1, 1) := dk_43 (dk_at dksL_law_2 13 rfl rfl)
theorem dL_law_61 : decode cL_law 61 = .ok (.aload_n 2, 1) := dk_44 (dk_at dksL_law_2 14 rfl rfl)
theorem dL_law_62 : decode cL_law 62 = .ok (.aload_n 0, 1) := dk_42 (dk_at dksL_law_2 15 rfl rfl)
theorem dL_law_63 : decode cL_law 63 = .ok (.iconst 0, 1) := dk_3 (dk_at dksL_law_2 16 rfl rfl)
theorem dL_law_64 : decode cL_law 64 = .ok (.invokestatic 73, 3) := dk_184 0 73 (dk_at dksL_law_2 17 rfl rfl)
theorem dL_law_67 : decode cL_law 67 = .ok (.aload_n 0, 1) := dk_42 (dk_at dksL_law_2 20 rfl rfl)
theorem dL_law_68 : decode cL_law 68 = .ok (.iconst 1, 1) := dk_4 (dk_at dksL_law_2 21 rfl rfl)
theorem dL_law_69 : decode cL_law 69 = .ok (.invokestatic 73, 3) := dk_184 0 73 (dk_at dksL_law_3 0 rfl rfl)
theorem dL_law_72 : decode cL_law 72 = .ok (.bipush 40, 2) := dk_16 40 (dk_at dksL_law_3 3 rfl rfl)
theorem dL_law_74 : decode cL_law 74 = .ok (.invokestatic 50, 3) := dk_184 0 50 (dk_at dksL_law_3 5 rfl rfl)
theorem dL_law_77 : decode cL_law 77 = .ok (.ifCond .eq 27, 3) := dk_153 0 27 (dk_at dksL_law_3 8 rfl rfl)
theorem dL_law_80 : decode cL_law 80 = .ok (.aload_n 1, 1) := dk_43 (dk_at dksL_law_3 11 rfl rfl)
theorem dL_law_81 : decode cL_law 81 = .ok (.aload_n 0, 1) := dk_42 (dk_at dksL_law_3 12 rfl rfl)
theorem dL_law_82 : decode cL_law 82 = .ok (.iconst 2, 1) := dk_5 (dk_at dksL_law_3 13 rfl rfl)
theorem dL_law_83 : decode cL_law 83 = .ok (.invokestatic 73, 3) := dk_184 0 73 (dk_at dksL_law_3 14 rfl rfl)
theorem dL_law_86 : decode cL_law 86 = .ok (.invokevirtual 28, 3) := dk_182 0 28 (dk_at dksL_law_3 17 rfl rfl)
theorem dL_law_89 : decode cL_law 89 = .ok (.ifCond .ne 15, 3) := dk_154 0 15 (dk_at dksL_law_3 20 rfl rfl)
theorem dL_law_92 : decode cL_law 92 = .ok (.aload_n 1, 1) := dk_43 (dk_at dksL_law_3 23 rfl rfl)
theorem dL_law_93 : decode cL_law 93 = .ok (.aload_n 2, 1) := dk_44 (dk_at dksL_law_4 0 rfl rfl)
theorem dL_law_94 : decode cL_law 94 = .ok (.invokestatic 80, 3) := dk_184 0 80 (dk_at dksL_law_4 1 rfl rfl)
theorem dL_law_97 : decode cL_law 97 = .ok (.ifCond .eq 7, 3) := dk_153 0 7 (dk_at dksL_law_4 4 rfl rfl)
theorem dL_law_100 : decode cL_law 100 = .ok (.iconst 1, 1) := dk_4 (dk_at dksL_law_4 7 rfl rfl)
theorem dL_law_101 : decode cL_law 101 = .ok (.goto 4, 3) := dk_167 0 4 (dk_at dksL_law_4 8 rfl rfl)
theorem dL_law_104 : decode cL_law 104 = .ok (.iconst 0, 1) := dk_3 (dk_at dksL_law_4 11 rfl rfl)
theorem dL_law_105 : decode cL_law 105 = .ok (.ireturn, 1) := dk_172 (dk_at dksL_law_4 12 rfl rfl)
end
section
/-! BASE: the classes of the worlds, the four kinds of arrays, one shape of contract, its start, its calls, its ends -/
set_option maxRecDepth 100000
abbrev vwCl : List vw_C := [(RX1, TX1, 4), (RX2, TX2, 4)]
abbrev aty (dT : Nat → ClassId) : List (ClassId × FieldType) := [(dT 0, .byte), (dT 1, .long), (dT 2, .int), (dT 3, .boolean)]
/-- a contract's start: its cells -/
abbrev PCx (D : va_G) (dT : Nat → ClassId) (sz : Nat) (w0 : va_W) : State → Prop := fun U => U.heap.size = sz ∧ va_P D vwCl w0 U.heap ∧ va_K D vwCl (aty dT) U ∧ va_D (fun _ => True) w0
/-- a contract's end: its cells -/
abbrev BCx (D : va_G) {S : Type} (w1 : S → va_W) (A : Nat → Prop) : S → State → Prop := fun u t => va_P D vwCl (w1 u) t.heap ∧ va_D A (w1 u)
theorem mtBlind {D : va_G} {dT : Nat → ClassId} {sz : Nat} {As : List Value} {w0 : va_W} : FrameBlind (va_Pc As (PCx D dT sz w0)) := fun a U g mk q => by
  obtain ⟨q0, q1, qP, qK, qD⟩ := q
  exact ⟨q0, q1, qP, va_K.moved (u := U) (U := U.calling g mk a) (Vm.Alike.refl U.vm) qK, qD⟩
theorem mt_of {l : Launch} {y : MethodName} {bytes : ByteArray} {maxL : Nat} {ret : Option FieldType} {rm : Room} {As : List Value} {w0 : va_W} {D : va_G} {dT : Nat → ClassId} {Qc : (Nat → Prop) → Array Value → State → Outcome → State → Prop} {mc ms : Nat} (hy : plainName y.cls = true) (hlen : (lg_sl As).length ≤ maxL)
    (body : ∀ (p : Program) (e : Env) (s : State) (m : MethodId) (args : Array Value) (below : List Frame) (meth : Method) (c : Code), p.tables.exec = Jvm.exec → c.code = bytes → meth.sig.returnType = ret → meth.locks = false → c.maxLocals = maxL → (∀ w ∈ lw_all, w.before args s = true) → s.vm.findClass y.cls = some m.cls → meth.name = y.name → ∀ (A : Nat → Prop), (∀ q : Nat, s.heap.size ≤ q → A q) → ∀ (H : Heap) (locs : List Loc), va_P D vwCl w0 H → va_D A w0 → va_K D vwCl (aty dT) s → va_S A s.heap H locs → ∀ ls : Array Slot, lv_has ls maxL (lv_args 0 As) → ∀ Q : State → Prop, Q = MQ below (Qc A) args s mc ms A → W p l e rm s m args below meth c H locs 0 0 Q (F0 m 0 ls [])) :
    ∀ sz : Nat, Met l y (ws_ y bytes maxL ret) rm (va_Pc As (PCx D dT sz w0)) (Qc (va_A w0 sz)) mc ms (va_A w0 sz) := by
  intro sz
  refine Met.ofW (cc := bytes) (maxL := maxL) (ret := ret) hy rfl ?_
  intro p e s m args below meth c s₁ B hml hv
  obtain ⟨rfl, hsz, hP, hK, hD0⟩ := hv
  subst hsz
  have hts := atoms_spec (ws := ws_ y bytes maxL ret) B.pre
  have hl := lv_entry As (n := maxL) hlen
  rw [lg_entry_eq]
  exact body p e s m _ below meth c B.exec B.bytes B.returns B.notSynchronized hml (fun w h => hts w (List.mem_cons_of_mem _ h)) (findClass_of_methodNamed B.named) (name_of_methodNamed B.named B.method).1 (va_A w0 s.heap.size) (fun q h => Or.inr h) _ _ hP hD0.self hK va_S.rf _ hl _ rfl
theorem fm_of_map {α β : Type} (f : α → Option β) (is : List α) (w : List β) (h : is.map f = w.map some) : is.filterMap f = w := by
  have h1 : is.filterMap f = (is.map f).filterMap id := by rw [List.filterMap_map]; rfl
  rw [h1, h, List.filterMap_map]
  simp
section BASE
variable {p : Program} {l : Launch} {e : Env} {R : Room} {s : State} {m : MethodId} {args : Array Value} {below : List Frame} {meth : Method} {c : Code} {H : Heap} {locs : List Loc} {cells slots : Nat} {Q : State → Prop}
variable {pc : Nat} {ls : Array Slot} {rest st0 : List Value} {A : Nat → Prop} {H0 : Heap} {D : va_G} {dT : Nat → ClassId} {ws wc wr : va_W} {cc bytes : ByteArray} {y : MethodName} {maxL nL mc ms n index : Nat} {ret : Option FieldType} {rm : Room} {As : List Value} {own : String}
theorem cl_Si {S : Type} {post : Int32 → S → Prop} {w1 : S → va_W}
    (hM : ∀ sz : Nat, Met l y (ws_ y bytes maxL ret) rm (va_Pc As (PCx D dT sz wc)) (va_Qi post (BCx D w1 (va_A wc sz)) (va_A wc sz)) mc ms (va_A wc sz))
    (S0 : CallFix p m c cc nL s args lw_all own) (cw : CallB R s args own index y bytes maxL ret (ws_ y bytes maxL ret) rm mc ms n ∧ (Cond.static y).before args s = true)
    (hP : va_P D vwCl ws H) (hD : va_D A ws) (hS : va_S A H0 H locs) (hK : va_K D vwCl (aty dT) s) (hA : ∀ q : Nat, H0.size ≤ q → A q)
    (isC isR : List Nat) (hC : isC.map (fun i => ws[i]?) = wc.map some) (hR : isR.map (fun i => ws[i]?) = wr.map some) (hnC : va_nd isC = true) (hn : va_nd isR = true) (hdis : ∀ i ∈ isR, i ∉ isC)
    (hlen : As.length = n) (hsize : ls.size = nL) (hstack : st0 = As.reverse ++ rest) (hW : (rest.map fun v => v.category).sum ≤ 8) (hdg : decode cc pc = .ok (.invokestatic index, 3)) (hf : cells + mc ≤ R.cells ∧ slots + ms ≤ R.slots)
    (kk : ∀ (r : Int32) (u : S) (H1 : Heap) (locs1 : List Loc), post r u → va_P D vwCl (wr ++ w1 u) H1 → va_D A (wr ++ w1 u) → va_S A H0 H1 locs1 → W p l e R s m args below meth c H1 locs1 (cells + mc) (slots + ms) Q (F0 m (pc + 3) ls (.int r :: rest))) :
    W p l e R s m args below meth c H locs cells slots Q (F0 m pc ls st0) := by
  have hPc : va_P D vwCl wc H := hP.sub isC (fm_of_map _ _ _ hC)
  have hDc : va_D A wc := hD.sub isC hnC hC
  have hFc := va_free hD hS hA isC hC
  refine va_calli (va_runS (As := As) (rest := rest) S0 (hM H.size) cw ⟨mtBlind, fun U hU hW => ⟨rfl, by rw [hU], by rw [hU]; exact hPc, va_K.moved hW.alike hK, hDc.weaken (fun _ _ _ _ => trivial)⟩⟩ rfl hlen hsize hstack (lv_room hW) hdg hf) hS (fun q _ h => hFc q h) hFc (fun r u t H1 locs1 ht hvm hw hB hz1 hk1 hS1 => ?_)
  obtain ⟨hP1, hD1⟩ := hB
  rw [ht] at hP1
  obtain ⟨hPj, hDj⟩ := va_join hP hD isC isR hC hR hn hdis hk1 hFc hP1 hD1
  exact kk r u H1 locs1 hw hPj hDj hS1
theorem cl_Sv {S : Type} {post : S → Prop} {w1 : S → va_W}
    (hM : ∀ sz : Nat, Met l y (ws_ y bytes maxL ret) rm (va_Pc As (PCx D dT sz wc)) (va_Qv post (BCx D w1 (va_A wc sz)) (va_A wc sz)) mc ms (va_A wc sz))
    (S0 : CallFix p m c cc nL s args lw_all own) (cw : CallB R s args own index y bytes maxL ret (ws_ y bytes maxL ret) rm mc ms n ∧ (Cond.static y).before args s = true)
    (hP : va_P D vwCl ws H) (hD : va_D A ws) (hS : va_S A H0 H locs) (hK : va_K D vwCl (aty dT) s) (hA : ∀ q : Nat, H0.size ≤ q → A q)
    (isC isR : List Nat) (hC : isC.map (fun i => ws[i]?) = wc.map some) (hR : isR.map (fun i => ws[i]?) = wr.map some) (hnC : va_nd isC = true) (hn : va_nd isR = true) (hdis : ∀ i ∈ isR, i ∉ isC)
    (hlen : As.length = n) (hsize : ls.size = nL) (hstack : st0 = As.reverse ++ rest) (hW : (rest.map fun v => v.category).sum ≤ 8) (hdg : decode cc pc = .ok (.invokestatic index, 3)) (hf : cells + mc ≤ R.cells ∧ slots + ms ≤ R.slots)
    (kk : ∀ (u : S) (H1 : Heap) (locs1 : List Loc), post u → va_P D vwCl (wr ++ w1 u) H1 → va_D A (wr ++ w1 u) → va_S A H0 H1 locs1 → W p l e R s m args below meth c H1 locs1 (cells + mc) (slots + ms) Q (F0 m (pc + 3) ls rest)) :
    W p l e R s m args below meth c H locs cells slots Q (F0 m pc ls st0) := by
  have hPc : va_P D vwCl wc H := hP.sub isC (fm_of_map _ _ _ hC)
  have hDc : va_D A wc := hD.sub isC hnC hC
  have hFc := va_free hD hS hA isC hC
  refine va_callv (va_runS (As := As) (rest := rest) S0 (hM H.size) cw ⟨mtBlind, fun U hU hW => ⟨rfl, by rw [hU], by rw [hU]; exact hPc, va_K.moved hW.alike hK, hDc.weaken (fun _ _ _ _ => trivial)⟩⟩ rfl hlen hsize hstack (lv_room hW) hdg hf) hS (fun q _ h => hFc q h) hFc (fun u t H1 locs1 ht hvm hw hB hz1 hk1 hS1 => ?_)
  obtain ⟨hP1, hD1⟩ := hB
  rw [ht] at hP1
  obtain ⟨hPj, hDj⟩ := va_join hP hD isC isR hC hR hn hdis hk1 hFc hP1 hD1
  exact kk u H1 locs1 hw hPj hDj hS1
/-- a call through an object: the receiver is the world's cell 0 of the callee -/
theorem cl_Vi {S : Type} {post : Int32 → S → Prop} {w1 : S → va_W} {b ci : Nat} {q : vw_C} {fs : List Value}
    (hM : ∀ sz : Nat, Met l y (ws_ y bytes maxL ret) rm (va_Pc (.ref b :: As) (PCx D dT sz wc)) (va_Qi post (BCx D w1 (va_A wc sz)) (va_A wc sz)) mc ms (va_A wc sz))
    (S0 : CallFix p m c cc nL s args lw_all own) (cw : CallW R s args own q.1 index y bytes maxL ret (ws_ y bytes maxL ret) rm mc ms n)
    (hc : vwCl[ci]? = some q) (he : wc[0]? = some (b, .inr (ci, fs)))
    (hP : va_P D vwCl ws H) (hD : va_D A ws) (hS : va_S A H0 H locs) (hK : va_K D vwCl (aty dT) s) (hA : ∀ q : Nat, H0.size ≤ q → A q)
    (isC isR : List Nat) (hC : isC.map (fun i => ws[i]?) = wc.map some) (hR : isR.map (fun i => ws[i]?) = wr.map some) (hnC : va_nd isC = true) (hn : va_nd isR = true) (hdis : ∀ i ∈ isR, i ∉ isC)
    (hlen : As.length = n) (hsize : ls.size = nL) (hstack : st0 = As.reverse ++ .ref b :: rest) (hW : (rest.map fun v => v.category).sum ≤ 8) (hdg : decode cc pc = .ok (.invokevirtual index, 3)) (hf : cells + mc ≤ R.cells ∧ slots + ms ≤ R.slots)
    (kk : ∀ (r : Int32) (u : S) (H1 : Heap) (locs1 : List Loc), post r u → va_P D vwCl (wr ++ w1 u) H1 → va_D A (wr ++ w1 u) → va_S A H0 H1 locs1 → W p l e R s m args below meth c H1 locs1 (cells + mc) (slots + ms) Q (F0 m (pc + 3) ls (.int r :: rest))) :
    W p l e R s m args below meth c H locs cells slots Q (F0 m pc ls st0) := by
  have hPc : va_P D vwCl wc H := hP.sub isC (fm_of_map _ _ _ hC)
  have hDc : va_D A wc := hD.sub isC hnC hC
  have hFc := va_free hD hS hA isC hC
  refine va_calli (va_runV (As := As) (rest := rest) S0 (hM H.size) cw ⟨mtBlind, va_recv hK hPc hc he, fun U hU hW => ⟨rfl, by rw [hU], by rw [hU]; exact hPc, va_K.moved hW.alike hK, hDc.weaken (fun _ _ _ _ => trivial)⟩⟩ rfl hlen hsize hstack (lv_room hW) hdg hf) hS (fun q _ h => hFc q h) hFc (fun r u t H1 locs1 ht hvm hw hB hz1 hk1 hS1 => ?_)
  obtain ⟨hP1, hD1⟩ := hB
  rw [ht] at hP1
  obtain ⟨hPj, hDj⟩ := va_join hP hD isC isR hC hR hn hdis hk1 hFc hP1 hD1
  exact kk r u H1 locs1 hw hPj hDj hS1
theorem cl_Vv {S : Type} {post : S → Prop} {w1 : S → va_W} {b ci : Nat} {q : vw_C} {fs : List Value}
    (hM : ∀ sz : Nat, Met l y (ws_ y bytes maxL ret) rm (va_Pc (.ref b :: As) (PCx D dT sz wc)) (va_Qv post (BCx D w1 (va_A wc sz)) (va_A wc sz)) mc ms (va_A wc sz))
    (S0 : CallFix p m c cc nL s args lw_all own) (cw : CallW R s args own q.1 index y bytes maxL ret (ws_ y bytes maxL ret) rm mc ms n)
    (hc : vwCl[ci]? = some q) (he : wc[0]? = some (b, .inr (ci, fs)))
    (hP : va_P D vwCl ws H) (hD : va_D A ws) (hS : va_S A H0 H locs) (hK : va_K D vwCl (aty dT) s) (hA : ∀ q : Nat, H0.size ≤ q → A q)
    (isC isR : List Nat) (hC : isC.map (fun i => ws[i]?) = wc.map some) (hR : isR.map (fun i => ws[i]?) = wr.map some) (hnC : va_nd isC = true) (hn : va_nd isR = true) (hdis : ∀ i ∈ isR, i ∉ isC)
    (hlen : As.length = n) (hsize : ls.size = nL) (hstack : st0 = As.reverse ++ .ref b :: rest) (hW : (rest.map fun v => v.category).sum ≤ 8) (hdg : decode cc pc = .ok (.invokevirtual index, 3)) (hf : cells + mc ≤ R.cells ∧ slots + ms ≤ R.slots)
    (kk : ∀ (u : S) (H1 : Heap) (locs1 : List Loc), post u → va_P D vwCl (wr ++ w1 u) H1 → va_D A (wr ++ w1 u) → va_S A H0 H1 locs1 → W p l e R s m args below meth c H1 locs1 (cells + mc) (slots + ms) Q (F0 m (pc + 3) ls rest)) :
    W p l e R s m args below meth c H locs cells slots Q (F0 m pc ls st0) := by
  have hPc : va_P D vwCl wc H := hP.sub isC (fm_of_map _ _ _ hC)
  have hDc : va_D A wc := hD.sub isC hnC hC
  have hFc := va_free hD hS hA isC hC
  refine va_callv (va_runV (As := As) (rest := rest) S0 (hM H.size) cw ⟨mtBlind, va_recv hK hPc hc he, fun U hU hW => ⟨rfl, by rw [hU], by rw [hU]; exact hPc, va_K.moved hW.alike hK, hDc.weaken (fun _ _ _ _ => trivial)⟩⟩ rfl hlen hsize hstack (lv_room hW) hdg hf) hS (fun q _ h => hFc q h) hFc (fun u t H1 locs1 ht hvm hw hB hz1 hk1 hS1 => ?_)
  obtain ⟨hP1, hD1⟩ := hB
  rw [ht] at hP1
  obtain ⟨hPj, hDj⟩ := va_join hP hD isC isR hC hR hn hdis hk1 hFc hP1 hD1
  exact kk u H1 locs1 hw hPj hDj hS1
/-- a constructor's call -/
theorem cl_Iv {S : Type} {post : S → Prop} {w1 : S → va_W} {b : Nat}
    (hM : ∀ sz : Nat, Met l y (ws_ y bytes maxL none) rm (va_Pc (.ref b :: As) (PCx D dT sz wc)) (va_Qv post (BCx D w1 (va_A wc sz)) (va_A wc sz)) mc ms (va_A wc sz))
    (S0 : CallFix p m c cc nL s args lw_all own) (cw : CallB R s args own index y bytes maxL none (ws_ y bytes maxL none) rm mc ms n ∧ y.name = "<init>" ∧ (Cond.instanceMethod y).before args s = true)
    (hP : va_P D vwCl ws H) (hD : va_D A ws) (hS : va_S A H0 H locs) (hK : va_K D vwCl (aty dT) s) (hA : ∀ q : Nat, H0.size ≤ q → A q)
    (isC isR : List Nat) (hC : isC.map (fun i => ws[i]?) = wc.map some) (hR : isR.map (fun i => ws[i]?) = wr.map some) (hnC : va_nd isC = true) (hn : va_nd isR = true) (hdis : ∀ i ∈ isR, i ∉ isC)
    (hlen : As.length = n) (hsize : ls.size = nL) (hstack : st0 = As.reverse ++ .ref b :: rest) (hW : (rest.map fun v => v.category).sum ≤ 8) (hdg : decode cc pc = .ok (.invokespecial index, 3)) (hf : cells + mc ≤ R.cells ∧ slots + ms ≤ R.slots)
    (kk : ∀ (u : S) (H1 : Heap) (locs1 : List Loc), post u → va_P D vwCl (wr ++ w1 u) H1 → va_D A (wr ++ w1 u) → va_S A H0 H1 locs1 → W p l e R s m args below meth c H1 locs1 (cells + mc) (slots + ms) Q (F0 m (pc + 3) ls rest)) :
    W p l e R s m args below meth c H locs cells slots Q (F0 m pc ls st0) := by
  have hPc : va_P D vwCl wc H := hP.sub isC (fm_of_map _ _ _ hC)
  have hDc : va_D A wc := hD.sub isC hnC hC
  have hFc := va_free hD hS hA isC hC
  refine va_callv (va_runI (As := As) (rest := rest) S0 (hM H.size) cw ⟨mtBlind, fun U hU hW => ⟨rfl, by rw [hU], by rw [hU]; exact hPc, va_K.moved hW.alike hK, hDc.weaken (fun _ _ _ _ => trivial)⟩⟩ rfl hlen hsize hstack (lv_room hW) hdg hf) hS (fun q _ h => hFc q h) hFc (fun u t H1 locs1 ht hvm hw hB hz1 hk1 hS1 => ?_)
  obtain ⟨hP1, hD1⟩ := hB
  rw [ht] at hP1
  obtain ⟨hPj, hDj⟩ := va_join hP hD isC isR hC hR hn hdis hk1 hFc hP1 hD1
  exact kk u H1 locs1 hw hPj hDj hS1
/-- the ends -/
theorem rt_v {S : Type} {post : S → Prop} {w1 : S → va_W} (hx : p.tables.exec = Jvm.exec) (hb : c.code = cc) (hr : meth.sig.returnType = none) (hlocks : meth.locks = false) (u : S) (hp : post u) (hP : va_P D vwCl (w1 u) H) (hD : va_D A (w1 u)) (hS : va_S A s.heap H locs) (hc : cells ≤ mc) (hs : slots ≤ ms) (hdg : decode cc pc = .ok (.return_, 1)) :
    W p l e R s m args below meth c H locs cells slots (MQ below (va_Qv post (BCx D w1 A) A) args s mc ms A) (F0 m pc ls []) :=
  W.widen hc hs (W.vret hx hb hr (fun t ht hW => ⟨⟨u, rfl, hp, by rw [ht]; exact hP, hD⟩, hS.F ht⟩) hS.2.2 hdg hlocks)
theorem rt_i {S : Type} {post : Int32 → S → Prop} {w1 : S → va_W} {v : Int32} (hx : p.tables.exec = Jvm.exec) (hb : c.code = cc) (hr : meth.sig.returnType = some .int) (hlocks : meth.locks = false) (u : S) (hp : post v u) (hP : va_P D vwCl (w1 u) H) (hD : va_D A (w1 u)) (hS : va_S A s.heap H locs) (hc : cells ≤ mc) (hs : slots ≤ ms) (hdg : decode cc pc = .ok (.ireturn, 1)) :
    W p l e R s m args below meth c H locs cells slots (MQ below (va_Qi post (BCx D w1 A) A) args s mc ms A) (F0 m pc ls [.int v]) :=
  W.widen hc hs (W.iret hx hb hr (fun t ht hW => ⟨⟨v, u, rfl, hp, by rw [ht]; exact hP, hD⟩, hS.F ht⟩) hS.2.2 hdg hlocks)
theorem rt_z {S : Type} {post : Int32 → S → Prop} {w1 : S → va_W} {v : Int32} (hx : p.tables.exec = Jvm.exec) (hb : c.code = cc) (hr : meth.sig.returnType = some .boolean) (hlocks : meth.locks = false) (hv : v = 0 ∨ v = 1) (u : S) (hp : post v u) (hP : va_P D vwCl (w1 u) H) (hD : va_D A (w1 u)) (hS : va_S A s.heap H locs) (hc : cells ≤ mc) (hs : slots ≤ ms) (hdg : decode cc pc = .ok (.ireturn, 1)) :
    W p l e R s m args below meth c H locs cells slots (MQ below (va_Qi post (BCx D w1 A) A) args s mc ms A) (F0 m pc ls [.int v]) :=
  W.widen hc hs (W.zret hx hb hr (by rcases hv with rfl | rfl <;> rfl) (fun t ht hW => ⟨⟨v, u, rfl, hp, by rw [ht]; exact hP, hD⟩, hS.F ht⟩) hS.2.2 hdg hlocks)
/-- arrays made: their class is the one of the tables -/
theorem nw_b (hx : p.tables.exec = Jvm.exec) (hb : c.code = cc) (hts : ∀ w ∈ lw_all, w.before args s = true) (hK : va_K D vwCl (aty dT) s) (hP : va_P D vwCl ws H) (hD : va_D A ws) (hS : va_S A H0 H locs) (hA : ∀ q : Nat, H0.size ≤ q → A q) {k : Int32} {N : Nat} (hn : ¬ k < 0) (hN : k.toNatClampNeg = N) (hbytes : N * componentBytes .byte ≤ 536870912) (hcells : cells + 1 ≤ R.cells) (hslots : slots + N ≤ R.slots) (hdg : decode cc pc = .ok (.newarray .byte, 2))
    (kk : ∀ (q : Nat) (H1 : Heap), va_P D vwCl (ws ++ [(q, .inl (dT 0, N, .inl (fun _ => 0)))]) H1 → va_D A (ws ++ [(q, .inl (dT 0, N, .inl (fun _ => 0)))]) → va_S A H0 H1 locs → W p l e R s m args below meth c H1 locs (cells + 1) (slots + N) Q (F0 m (pc + 2) ls (.ref q :: rest))) : W p l e R s m args below meth c H locs cells slots Q (F0 m pc ls (.int k :: rest)) := by
  refine va_newa (atype := .byte) (ty := .byte) (a0 := (N, .inl (fun _ => 0))) hx hb (hts _ q27) rfl hK hP hD hS hA (fun cA => rfl) hn hN hbytes hcells hslots hdg (fun q cA H1 hK1 hP1 hD1 hS1 => ?_)
  have e1 : s.vm.findClass ("[" ++ FieldType.byte.toString) = some cA := (hK1.2 4 _ rfl).2
  have e2 : s.vm.findClass ("[" ++ FieldType.byte.toString) = some (dT 0) := (hK1.2 0 _ rfl).2
  have e3 : cA = dT 0 := Option.some.inj (e1.symm.trans e2)
  subst e3
  exact kk q H1 hP1 hD1 hS1
theorem nw_l (hx : p.tables.exec = Jvm.exec) (hb : c.code = cc) (hts : ∀ w ∈ lw_all, w.before args s = true) (hK : va_K D vwCl (aty dT) s) (hP : va_P D vwCl ws H) (hD : va_D A ws) (hS : va_S A H0 H locs) (hA : ∀ q : Nat, H0.size ≤ q → A q) {k : Int32} {N : Nat} (hn : ¬ k < 0) (hN : k.toNatClampNeg = N) (hbytes : N * componentBytes .long ≤ 536870912) (hcells : cells + 1 ≤ R.cells) (hslots : slots + N ≤ R.slots) (hdg : decode cc pc = .ok (.newarray .long, 2))
    (kk : ∀ (q : Nat) (H1 : Heap), va_P D vwCl (ws ++ [(q, .inl (dT 1, N, .inr (.inl (fun _ => 0))))]) H1 → va_D A (ws ++ [(q, .inl (dT 1, N, .inr (.inl (fun _ => 0))))]) → va_S A H0 H1 locs → W p l e R s m args below meth c H1 locs (cells + 1) (slots + N) Q (F0 m (pc + 2) ls (.ref q :: rest))) : W p l e R s m args below meth c H locs cells slots Q (F0 m pc ls (.int k :: rest)) := by
  refine va_newa (atype := .long) (ty := .long) (a0 := (N, .inr (.inl (fun _ => 0)))) hx hb (hts _ q28) rfl hK hP hD hS hA (fun cA => rfl) hn hN hbytes hcells hslots hdg (fun q cA H1 hK1 hP1 hD1 hS1 => ?_)
  have e1 : s.vm.findClass ("[" ++ FieldType.long.toString) = some cA := (hK1.2 4 _ rfl).2
  have e2 : s.vm.findClass ("[" ++ FieldType.long.toString) = some (dT 1) := (hK1.2 1 _ rfl).2
  have e3 : cA = dT 1 := Option.some.inj (e1.symm.trans e2)
  subst e3
  exact kk q H1 hP1 hD1 hS1
theorem nw_i (hx : p.tables.exec = Jvm.exec) (hb : c.code = cc) (hts : ∀ w ∈ lw_all, w.before args s = true) (hK : va_K D vwCl (aty dT) s) (hP : va_P D vwCl ws H) (hD : va_D A ws) (hS : va_S A H0 H locs) (hA : ∀ q : Nat, H0.size ≤ q → A q) {k : Int32} {N : Nat} (hn : ¬ k < 0) (hN : k.toNatClampNeg = N) (hbytes : N * componentBytes .int ≤ 536870912) (hcells : cells + 1 ≤ R.cells) (hslots : slots + N ≤ R.slots) (hdg : decode cc pc = .ok (.newarray .int, 2))
    (kk : ∀ (q : Nat) (H1 : Heap), va_P D vwCl (ws ++ [(q, .inl (dT 2, N, .inl (fun _ => 0)))]) H1 → va_D A (ws ++ [(q, .inl (dT 2, N, .inl (fun _ => 0)))]) → va_S A H0 H1 locs → W p l e R s m args below meth c H1 locs (cells + 1) (slots + N) Q (F0 m (pc + 2) ls (.ref q :: rest))) : W p l e R s m args below meth c H locs cells slots Q (F0 m pc ls (.int k :: rest)) := by
  refine va_newa (atype := .int) (ty := .int) (a0 := (N, .inl (fun _ => 0))) hx hb (hts _ q56) rfl hK hP hD hS hA (fun cA => rfl) hn hN hbytes hcells hslots hdg (fun q cA H1 hK1 hP1 hD1 hS1 => ?_)
  have e1 : s.vm.findClass ("[" ++ FieldType.int.toString) = some cA := (hK1.2 4 _ rfl).2
  have e2 : s.vm.findClass ("[" ++ FieldType.int.toString) = some (dT 2) := (hK1.2 2 _ rfl).2
  have e3 : cA = dT 2 := Option.some.inj (e1.symm.trans e2)
  subst e3
  exact kk q H1 hP1 hD1 hS1
theorem nw_z (hx : p.tables.exec = Jvm.exec) (hb : c.code = cc) (hts : ∀ w ∈ lw_all, w.before args s = true) (hK : va_K D vwCl (aty dT) s) (hP : va_P D vwCl ws H) (hD : va_D A ws) (hS : va_S A H0 H locs) (hA : ∀ q : Nat, H0.size ≤ q → A q) {k : Int32} {N : Nat} (hn : ¬ k < 0) (hN : k.toNatClampNeg = N) (hbytes : N * componentBytes .boolean ≤ 536870912) (hcells : cells + 1 ≤ R.cells) (hslots : slots + N ≤ R.slots) (hdg : decode cc pc = .ok (.newarray .boolean, 2))
    (kk : ∀ (q : Nat) (H1 : Heap), va_P D vwCl (ws ++ [(q, .inl (dT 3, N, .inl (fun _ => 0)))]) H1 → va_D A (ws ++ [(q, .inl (dT 3, N, .inl (fun _ => 0)))]) → va_S A H0 H1 locs → W p l e R s m args below meth c H1 locs (cells + 1) (slots + N) Q (F0 m (pc + 2) ls (.ref q :: rest))) : W p l e R s m args below meth c H locs cells slots Q (F0 m pc ls (.int k :: rest)) := by
  refine va_newa (atype := .boolean) (ty := .boolean) (a0 := (N, .inl (fun _ => 0))) hx hb (hts _ q57) rfl hK hP hD hS hA (fun cA => rfl) hn hN hbytes hcells hslots hdg (fun q cA H1 hK1 hP1 hD1 hS1 => ?_)
  have e1 : s.vm.findClass ("[" ++ FieldType.boolean.toString) = some cA := (hK1.2 4 _ rfl).2
  have e2 : s.vm.findClass ("[" ++ FieldType.boolean.toString) = some (dT 3) := (hK1.2 3 _ rfl).2
  have e3 : cA = dT 3 := Option.some.inj (e1.symm.trans e2)
  subst e3
  exact kk q H1 hP1 hD1 hS1
end BASE
end
section
/-! numbers, and what the methods compute, in plain words -/
theorem vin {x : Int32} {k n : Nat} (hx : x = nI k) (h : k < n) (hn : n < 2 ^ 31) : vp_in x n := by
  subst hx
  exact vp_in_nI h hn
theorem cl_0 : (0 : Int32).toNatClampNeg = 0 := by decide
theorem cl_1 : (1 : Int32).toNatClampNeg = 1 := by decide
theorem cl_2 : (2 : Int32).toNatClampNeg = 2 := by decide
theorem cl_3 : (3 : Int32).toNatClampNeg = 3 := by decide
theorem nIe {a b : Nat} (h : a = b) : nI a = nI b := congrArg nI h
theorem cln {x : Int32} {k : Nat} (hx : x = nI k) (h : k < 2 ^ 31) : x.toNatClampNeg = k := by
  subst hx
  exact nI_clamp h
theorem ge_t {x y : Int32} {a b : Nat} (c : y ≤ x) (hx : x = nI a) (hy : y = nI b) (ha : a < 2 ^ 31) (hb : b < 2 ^ 31) : b ≤ a := by
  subst hx hy
  exact (nI_leI hb ha).mp c
theorem ge_f {x y : Int32} {a b : Nat} (c : ¬ y ≤ x) (hx : x = nI a) (hy : y = nI b) (ha : a < 2 ^ 31) (hb : b < 2 ^ 31) : a < b := by
  subst hx hy
  rw [nI_leI hb ha] at c
  omega
theorem lt_t {x y : Int32} {a b : Nat} (c : x < y) (hx : x = nI a) (hy : y = nI b) (ha : a < 2 ^ 31) (hb : b < 2 ^ 31) : a < b := by
  subst hx hy
  exact (nI_ltI ha hb).mp c
theorem lt_f {x y : Int32} {a b : Nat} (c : ¬ x < y) (hx : x = nI a) (hy : y = nI b) (ha : a < 2 ^ 31) (hb : b < 2 ^ 31) : b ≤ a := by
  subst hx hy
  rw [nI_ltI ha hb] at c
  omega
theorem eq_t {x y : Int32} {a b : Nat} (c : x = y) (hx : x = nI a) (hy : y = nI b) (ha : a < 2 ^ 31) (hb : b < 2 ^ 31) : a = b := by
  subst hx hy
  exact (nI_eq ha hb).mp c
theorem eq_f {x y : Int32} {a b : Nat} (c : ¬ x = y) (hx : x = nI a) (hy : y = nI b) (ha : a < 2 ^ 31) (hb : b < 2 ^ 31) : a ≠ b := by
  subst hx hy
  exact fun h => c (by rw [h])
theorem ad1 {x : Int32} {k : Nat} (hx : x = nI k) : x + 1 = nI (k + 1) := by subst hx; exact nI_1 k
theorem adN {x y : Int32} {a b : Nat} (hx : x = nI a) (hy : y = nI b) : x + y = nI (a + b) := by subst hx hy; exact nI_add a b
theorem muN {x y : Int32} {a b : Nat} (hx : x = nI a) (hy : y = nI b) : x * y = nI (a * b) := by subst hx hy; exact pk_mul a b
theorem upd_at {f g : Nat → Int32} {i k : Nat} {x : Int32} (h : g = upd f i x) (hk : k = i) : g k = x := by
  subst h hk
  exact pk_us
theorem upd_ne {f g : Nat → Int32} {i k : Nat} {x : Int32} (h : g = upd f i x) (hk : k ≠ i) : g k = f k := by
  subst h
  exact pk_un hk
theorem updL_at {f g : Nat → Int64} {i k : Nat} {x : Int64} (h : g = vp_updL f i x) (hk : k = i) : g k = x := by
  subst h hk
  exact pk_uLs
theorem updL_ne {f g : Nat → Int64} {i k : Nat} {x : Int64} (h : g = vp_updL f i x) (hk : k ≠ i) : g k = f k := by
  subst h
  exact pk_uLn hk
-- encode
def bm (b : Int32) : Int32 := -(b &&& 1)
def esA (m : Int32) : Int32 := bm (m >>> ((7 : Int32) &&& 31)) ^^^ (bm m &&& (-1431655766)) ^^^ (bm (m >>> ((1 : Int32) &&& 31)) &&& (-858993460)) ^^^ (bm (m >>> ((2 : Int32) &&& 31)) &&& (-252645136)) ^^^ (bm (m >>> ((3 : Int32) &&& 31)) &&& (-16711936)) ^^^ (bm (m >>> ((4 : Int32) &&& 31)) &&& (-65536))
def esB (m : Int32) : Int32 := esA m ^^^ bm (m >>> ((5 : Int32) &&& 31))
def esD (m : Int32) : Int32 := esB m ^^^ bm (m >>> ((6 : Int32) &&& 31))
def esC (m : Int32) : Int32 := esD m ^^^ bm (m >>> ((5 : Int32) &&& 31))
def loW (b : Int32) : Int64 := ((esA b).toInt64 &&& 4294967295) ||| ((esB b).toInt64 <<< ((32 : Int32).toInt64 &&& 63))
def hiW (b : Int32) : Int64 := ((esC b).toInt64 &&& 4294967295) ||| ((esD b).toInt64 <<< ((32 : Int32).toInt64 &&& 63))
def Enc (lb : Nat → Int32) (N : Nat) (u : Nat → Int64) : Prop := ∀ q, q < N → u (2 * q) = loW (lb (q / 3)) ∧ u (2 * q + 1) = hiW (lb (q / 3))
-- decode
def cwOf (w : Nat → Int64) (q : Nat) : Int32 := if q % 2 = 0 then (w (q / 2)).toInt32 else (w (q / 2) >>> ((32 : Int32).toInt64 &&& 63)).toInt32
def exb (cw : Nat → Int32) (q j : Nat) : Int32 := (cw (q + j / 32) >>> (nI (j % 32) &&& 31)) &&& 1
def exc (cw : Nat → Int32) (b : Nat) : Nat → Nat → Int32
  | 0, j => exb cw b j
  | k + 1, j => exc cw b k j + exb cw (b + 4 * (k + 1)) j
def hst (f : Nat → Int32) (k : Nat) : Int32 := if k < 64 then f (2 * k) + f (2 * k + 1) else f (2 * (k - 64)) - f (2 * (k - 64) + 1)
def hpw (f : Nat → Int32) : Nat → Nat → Int32
  | 0 => f
  | n + 1 => hst (hpw f n)
def pkm (t : Int32) : Int32 := if t ≤ 0 then 0 else (-1)
def pab (t : Int32) : Int32 := (pkm t &&& t) ||| ((pkm t ^^^ (-1)) &&& (-t))
def pkA (f : Nat → Int32) : Nat → Int32
  | 0 => 0
  | n + 1 => if pab (f n) < pkA f n then pkA f n else pab (f n)
def pkV (f : Nat → Int32) : Nat → Int32
  | 0 => 0
  | n + 1 => if pab (f n) ≤ pkA f n then pkV f n else f n
def pkP (f : Nat → Int32) : Nat → Int32
  | 0 => 0
  | n + 1 => if pab (f n) ≤ pkA f n then pkP f n else nI n
def pkR (f : Nat → Int32) : Int32 := pkP f 128 ||| (128 * (if pkV f 128 ≤ 0 then 0 else 1))
def dcf (cw : Nat → Int32) (i : Nat) : Nat → Int32 := fun j => if j = 0 then hpw (exc cw (12 * i) 2) 7 0 - 192 else hpw (exc cw (12 * i) 2) 7 j
def dcl (w : Nat → Int64) (i : Nat) : Int32 := (pkR (dcf (cwOf w) i)).toInt8.toInt32
-- the law's own words
def duL (x j : Int32) : Nat → Int32
  | 0 => x >>> ((7 : Int32) &&& 31)
  | k + 1 => duL x j k ^^^ (((x >>> (nI k &&& 31)) &&& (j >>> (nI k &&& 31))) &&& 1)
theorem pk_congr {f g : Nat → Int32} : ∀ n : Nat, (∀ j, j < n → f j = g j) → pkA f n = pkA g n ∧ pkV f n = pkV g n ∧ pkP f n = pkP g n
  | 0, _ => ⟨rfl, rfl, rfl⟩
  | n + 1, h => by
    obtain ⟨h1, h2, h3⟩ := pk_congr n (fun j hj => h j (by omega))
    have h4 := h n (by omega)
    simp only [pkA, pkV, pkP, h1, h2, h3, h4]
    exact ⟨trivial, trivial, trivial⟩
theorem pkR_congr {f g : Nat → Int32} (h : ∀ j, j < 128 → f j = g j) : pkR f = pkR g := by
  obtain ⟨-, h2, h3⟩ := pk_congr 128 h
  simp only [pkR, h2, h3]
theorem hst_congr {f g : Nat → Int32} (h : ∀ j, j < 128 → f j = g j) : ∀ j, j < 128 → hst f j = hst g j := by
  intro j hj
  unfold hst
  by_cases hc : j < 64
  · rw [if_pos hc, if_pos hc, h _ (by omega), h _ (by omega)]
  · rw [if_neg hc, if_neg hc, h _ (by omega), h _ (by omega)]
theorem hpw_congr {f g : Nat → Int32} (h : ∀ j, j < 128 → f j = g j) : ∀ n j, j < 128 → hpw f n j = hpw g n j
  | 0, j, hj => h j hj
  | n + 1, j, hj => hst_congr (fun j hj => hpw_congr h n j hj) j hj
theorem exc_congr {f g : Nat → Int32} {b : Nat} (h : ∀ q, q < 48 → f q = g q) : ∀ k j, j < 128 → b + 4 * k + 3 < 48 → exc f b k j = exc g b k j
  | 0, j, hj, hb => by
    simp only [exc, exb]
    rw [h _ (by omega)]
  | k + 1, j, hj, hb => by
    simp only [exc, exb]
    rw [exc_congr h k j hj (by omega), h _ (by omega)]
-- InnerCode
def n3 (i : Int32) : Nat := i.toBitVec.toNat % 4
def kN (i : Int32) : Nat := i.toBitVec.toNat % 2147483648 % 1536
theorem n3_lt (i : Int32) : n3 i < 4 := Nat.mod_lt _ (by decide)
theorem kN_lt (i : Int32) : kN i < 1536 := Nat.mod_lt _ (by decide)
theorem n3_and (i : Int32) : i &&& 3 = nI (n3 i) := pk_and i 2 (by decide)
theorem kN_and (i : Int32) : i &&& 2147483647 = nI (i.toBitVec.toNat % 2147483648) := pk_and i 31 (by decide)
theorem kN_rem (i : Int32) {x y : Int32} (hx : x = i &&& 2147483647) (hy : y = nI 1536) : x - x / y * y = nI (kN i) := by
  subst hx hy
  rw [kN_and]
  exact pk_rem (Nat.lt_of_lt_of_le (Nat.mod_lt _ (by decide)) (by decide)) (by decide) (by decide)
def biI (w : Nat → Int64) (k : Nat) : Int32 := ((w (k / 64)).toUInt64 >>> ((nI (k % 64)).toInt64.toUInt64 &&& Int64.toUInt64 63)).toInt64.toInt32 &&& 1
def flp (k : Nat) : Int64 := (1 : Int64) <<< ((nI (k % 64)).toInt64 &&& 63)
def rdz (u : Nat → Int32) : Nat → Int32
  | 0 => 0
  | n + 1 => (rdz u n <<< ((8 : Int32) &&& 31)) ||| (u n &&& 255)
theorem cwOf_congr {v w : Nat → Int64} (h : ∀ k, k < 24 → v k = w k) (q : Nat) (hq : q < 48) : cwOf v q = cwOf w q := by
  unfold cwOf
  rw [h _ (by omega)]
theorem dcl_congr {v w : Nat → Int64} (h : ∀ k, k < 24 → v k = w k) (i : Nat) (hi : i < 4) : dcl v i = dcl w i := by
  unfold dcl
  rw [pkR_congr (g := dcf (cwOf w) i)]
  intro j hj
  have e1 : ∀ q, q < 128 → exc (cwOf v) (12 * i) 2 q = exc (cwOf w) (12 * i) 2 q := fun q hq => exc_congr (cwOf_congr h) 2 q hq (by omega)
  unfold dcf
  rw [hpw_congr e1 7 0 (by omega), hpw_congr e1 7 j hj]
end
section
/-! ReedMuller: the writing side -/
set_option maxRecDepth 100000
abbrev rm_X3_Bit0Mask : Room := { frames := 0, cells := 0, slots := 0, locals := 0 }
set_option maxHeartbeats 4000000 in
set_option maxRecDepth 100000 in
/-- the lowest bit, spread over all -/
theorem met_Bit0Mask (l : Launch) (D : va_G) (dT : Nat → ClassId) (b : Int32) : ∀ sz : Nat, Met l yX3_Bit0Mask (ws_ yX3_Bit0Mask cX3_Bit0Mask 1 (some .int)) rm_X3_Bit0Mask (va_Pc [.int b] (PCx D dT sz [])) (va_Qi (fun (r : Int32) (u : Unit) => r = bm b) (BCx D (fun u : Unit => []) (va_A [] sz)) (va_A [] sz)) 0 0 (va_A [] sz) := by
  refine mt_of (Qc := fun A => (va_Qi (fun (r : Int32) (u : Unit) => r = bm b) (BCx D (fun u : Unit => []) A) A)) (mc := 0) (ms := 0) (by decide) (Nat.le_of_ble_eq_true rfl) ?_
  intro p e s m args below meth c hx hb hr hlocks hml hts hown hnm A hA H locs hP hD hK hS ls hl Q hQ
  have hown : s.vm.findClass RX3 = some m.cls := hown
  have hl : lv_has ls 1 [(0, .int b)] := hl
  refine lv_iload_n hx hb dX3_Bit0Mask_0 rfl (lv_at hl 0 rfl) ?_
  refine lv_iconst (v := 1) hx hb dX3_Bit0Mask_1 (by decide) ?_
  refine lv_iand hx hb dX3_Bit0Mask_2 ?_
  refine lv_ineg hx hb dX3_Bit0Mask_3 ?_
  rw [hQ]
  exact rt_i hx hb hr hlocks () rfl hP hD hS (Nat.le_refl _) (Nat.le_refl _) dX3_Bit0Mask_4
abbrev rm_X3_encodeSub : Room := { frames := 1, cells := 0, slots := 0, locals := 20 }
set_option maxHeartbeats 4000000 in
set_option maxRecDepth 100000 in
/-- the word of 128 bits of a letter -/
theorem met_encodeSub (l : Launch) (D : va_G) (dT : Nat → ClassId) (h0 : Nat) (f : Nat → Int32) (b : Int32) : ∀ sz : Nat, Met l yX3_encodeSub (ws_ yX3_encodeSub cX3_encodeSub 3 none) rm_X3_encodeSub (va_Pc [.ref h0, .int b] (PCx D dT sz [(h0, .inl (dT 2, 4, .inl f))])) (va_Qv (fun (u : Nat → Int32) => u 0 = esA b ∧ u 1 = esB b ∧ u 2 = esC b ∧ u 3 = esD b) (BCx D (fun u : Nat → Int32 => [(h0, .inl (dT 2, 4, .inl u))]) (va_A [(h0, .inl (dT 2, 4, .inl f))] sz)) (va_A [(h0, .inl (dT 2, 4, .inl f))] sz)) 0 0 (va_A [(h0, .inl (dT 2, 4, .inl f))] sz) := by
  refine mt_of (Qc := fun A => (va_Qv (fun (u : Nat → Int32) => u 0 = esA b ∧ u 1 = esB b ∧ u 2 = esC b ∧ u 3 = esD b) (BCx D (fun u : Nat → Int32 => [(h0, .inl (dT 2, 4, .inl u))]) A) A)) (mc := 0) (ms := 0) (by decide) (Nat.le_of_ble_eq_true rfl) ?_
  intro p e s m args below meth c hx hb hr hlocks hml hts hown hnm A hA H locs hP hD hK hS ls hl Q hQ
  have hown : s.vm.findClass RX3 = some m.cls := hown
  have hl : lv_has ls 3 [(0, .ref h0), (1, .int b)] := hl
  refine lv_iload_n hx hb dX3_encodeSub_0 rfl (lv_at hl 1 rfl) ?_
  refine lv_bipush (v := 7) hx hb dX3_encodeSub_1 (by decide) ?_
  refine lv_ishr hx hb dX3_encodeSub_3 ?_
  refine cl_Si (As := [.int (b >>> (7 &&& 31))]) (rest := []) (wr := [(h0, .inl (dT 2, 4, .inl f))]) (met_Bit0Mask l D dT (b >>> (7 &&& 31))) ⟨hx, hb, hml, hown, hts⟩ (va_cwS 1 hts (lw_S q81 q82 q3 q83) rfl rfl rfl (by decide +kernel) ⟨Nat.le_of_ble_eq_true rfl, Nat.le_of_ble_eq_true rfl⟩) hP hD hS hK hA [] [0] rfl rfl rfl rfl (by decide) rfl hl.1 rfl (Nat.le_of_ble_eq_true rfl) dX3_encodeSub_4 ⟨Nat.le_of_ble_eq_true rfl, Nat.le_of_ble_eq_true rfl⟩ (fun r0 _u H locs hw0 hP hD hS => ?_)
  have hP : va_P D vwCl [(h0, .inl (dT 2, 4, .inl f))] H := hP
  have hD : va_D A [(h0, .inl (dT 2, 4, .inl f))] := hD
  refine lv_topi (fun x0 ex0 => ?_)
  refine lv_istore_n (lv' := [(2, .int x0), (0, .ref h0), (1, .int b)]) hx hb dX3_encodeSub_7 rfl hl (by decide) rfl (fun ls hl => ?_)
  refine lv_iload_n hx hb dX3_encodeSub_8 rfl (lv_at hl 0 rfl) ?_
  refine lv_iload_n hx hb dX3_encodeSub_9 rfl (lv_at hl 2 rfl) ?_
  refine cl_Si (As := [.int b]) (rest := [.int x0]) (wr := [(h0, .inl (dT 2, 4, .inl f))]) (met_Bit0Mask l D dT b) ⟨hx, hb, hml, hown, hts⟩ (va_cwS 1 hts (lw_S q81 q82 q3 q83) rfl rfl rfl (by decide +kernel) ⟨Nat.le_of_ble_eq_true rfl, Nat.le_of_ble_eq_true rfl⟩) hP hD hS hK hA [] [0] rfl rfl rfl rfl (by decide) rfl hl.1 rfl (Nat.le_of_ble_eq_true rfl) dX3_encodeSub_10 ⟨Nat.le_of_ble_eq_true rfl, Nat.le_of_ble_eq_true rfl⟩ (fun r1 _u H locs hw1 hP hD hS => ?_)
  have hP : va_P D vwCl [(h0, .inl (dT 2, 4, .inl f))] H := hP
  have hD : va_D A [(h0, .inl (dT 2, 4, .inl f))] := hD
  refine lv_ldc hx hb hown (hts _ q84) dX3_encodeSub_13 ?_
  refine lv_iand hx hb dX3_encodeSub_15 ?_
  refine lv_ixor hx hb dX3_encodeSub_16 ?_
  refine lv_topi (fun x1 ex1 => ?_)
  refine lv_istore_n (lv' := [(2, .int x1), (0, .ref h0), (1, .int b)]) hx hb dX3_encodeSub_17 rfl hl (by decide) rfl (fun ls hl => ?_)
  refine lv_iload_n hx hb dX3_encodeSub_18 rfl (lv_at hl 0 rfl) ?_
  refine lv_iload_n hx hb dX3_encodeSub_19 rfl (lv_at hl 2 rfl) ?_
  refine lv_iconst (v := 1) hx hb dX3_encodeSub_20 (by decide) ?_
  refine lv_ishr hx hb dX3_encodeSub_21 ?_
  refine cl_Si (As := [.int (b >>> (1 &&& 31))]) (rest := [.int x1]) (wr := [(h0, .inl (dT 2, 4, .inl f))]) (met_Bit0Mask l D dT (b >>> (1 &&& 31))) ⟨hx, hb, hml, hown, hts⟩ (va_cwS 1 hts (lw_S q81 q82 q3 q83) rfl rfl rfl (by decide +kernel) ⟨Nat.le_of_ble_eq_true rfl, Nat.le_of_ble_eq_true rfl⟩) hP hD hS hK hA [] [0] rfl rfl rfl rfl (by decide) rfl hl.1 rfl (Nat.le_of_ble_eq_true rfl) dX3_encodeSub_22 ⟨Nat.le_of_ble_eq_true rfl, Nat.le_of_ble_eq_true rfl⟩ (fun r2 _u H locs hw2 hP hD hS => ?_)
  have hP : va_P D vwCl [(h0, .inl (dT 2, 4, .inl f))] H := hP
  have hD : va_D A [(h0, .inl (dT 2, 4, .inl f))] := hD
  refine lv_ldc hx hb hown (hts _ q85) dX3_encodeSub_25 ?_
  refine lv_iand hx hb dX3_encodeSub_27 ?_
  refine lv_ixor hx hb dX3_encodeSub_28 ?_
  refine lv_topi (fun x2 ex2 => ?_)
  refine lv_istore_n (lv' := [(2, .int x2), (0, .ref h0), (1, .int b)]) hx hb dX3_encodeSub_29 rfl hl (by decide) rfl (fun ls hl => ?_)
  refine lv_iload_n hx hb dX3_encodeSub_30 rfl (lv_at hl 0 rfl) ?_
  refine lv_iload_n hx hb dX3_encodeSub_31 rfl (lv_at hl 2 rfl) ?_
  refine lv_iconst (v := 2) hx hb dX3_encodeSub_32 (by decide) ?_
  refine lv_ishr hx hb dX3_encodeSub_33 ?_
  refine cl_Si (As := [.int (b >>> (2 &&& 31))]) (rest := [.int x2]) (wr := [(h0, .inl (dT 2, 4, .inl f))]) (met_Bit0Mask l D dT (b >>> (2 &&& 31))) ⟨hx, hb, hml, hown, hts⟩ (va_cwS 1 hts (lw_S q81 q82 q3 q83) rfl rfl rfl (by decide +kernel) ⟨Nat.le_of_ble_eq_true rfl, Nat.le_of_ble_eq_true rfl⟩) hP hD hS hK hA [] [0] rfl rfl rfl rfl (by decide) rfl hl.1 rfl (Nat.le_of_ble_eq_true rfl) dX3_encodeSub_34 ⟨Nat.le_of_ble_eq_true rfl, Nat.le_of_ble_eq_true rfl⟩ (fun r3 _u H locs hw3 hP hD hS => ?_)
  have hP : va_P D vwCl [(h0, .inl (dT 2, 4, .inl f))] H := hP
  have hD : va_D A [(h0, .inl (dT 2, 4, .inl f))] := hD
  refine lv_ldc hx hb hown (hts _ q86) dX3_encodeSub_37 ?_
  refine lv_iand hx hb dX3_encodeSub_39 ?_
  refine lv_ixor hx hb dX3_encodeSub_40 ?_
  refine lv_topi (fun x3 ex3 => ?_)
  refine lv_istore_n (lv' := [(2, .int x3), (0, .ref h0), (1, .int b)]) hx hb dX3_encodeSub_41 rfl hl (by decide) rfl (fun ls hl => ?_)
  refine lv_iload_n hx hb dX3_encodeSub_42 rfl (lv_at hl 0 rfl) ?_
  refine lv_iload_n hx hb dX3_encodeSub_43 rfl (lv_at hl 2 rfl) ?_
  refine lv_iconst (v := 3) hx hb dX3_encodeSub_44 (by decide) ?_
  refine lv_ishr hx hb dX3_encodeSub_45 ?_
  refine cl_Si (As := [.int (b >>> (3 &&& 31))]) (rest := [.int x3]) (wr := [(h0, .inl (dT 2, 4, .inl f))]) (met_Bit0Mask l D dT (b >>> (3 &&& 31))) ⟨hx, hb, hml, hown, hts⟩ (va_cwS 1 hts (lw_S q81 q82 q3 q83) rfl rfl rfl (by decide +kernel) ⟨Nat.le_of_ble_eq_true rfl, Nat.le_of_ble_eq_true rfl⟩) hP hD hS hK hA [] [0] rfl rfl rfl rfl (by decide) rfl hl.1 rfl (Nat.le_of_ble_eq_true rfl) dX3_encodeSub_46 ⟨Nat.le_of_ble_eq_true rfl, Nat.le_of_ble_eq_true rfl⟩ (fun r4 _u H locs hw4 hP hD hS => ?_)
  have hP : va_P D vwCl [(h0, .inl (dT 2, 4, .inl f))] H := hP
  have hD : va_D A [(h0, .inl (dT 2, 4, .inl f))] := hD
  refine lv_ldc hx hb hown (hts _ q87) dX3_encodeSub_49 ?_
  refine lv_iand hx hb dX3_encodeSub_51 ?_
  refine lv_ixor hx hb dX3_encodeSub_52 ?_
  refine lv_topi (fun x4 ex4 => ?_)
  refine lv_istore_n (lv' := [(2, .int x4), (0, .ref h0), (1, .int b)]) hx hb dX3_encodeSub_53 rfl hl (by decide) rfl (fun ls hl => ?_)
  refine lv_iload_n hx hb dX3_encodeSub_54 rfl (lv_at hl 0 rfl) ?_
  refine lv_iload_n hx hb dX3_encodeSub_55 rfl (lv_at hl 2 rfl) ?_
  refine lv_iconst (v := 4) hx hb dX3_encodeSub_56 (by decide) ?_
  refine lv_ishr hx hb dX3_encodeSub_57 ?_
  refine cl_Si (As := [.int (b >>> (4 &&& 31))]) (rest := [.int x4]) (wr := [(h0, .inl (dT 2, 4, .inl f))]) (met_Bit0Mask l D dT (b >>> (4 &&& 31))) ⟨hx, hb, hml, hown, hts⟩ (va_cwS 1 hts (lw_S q81 q82 q3 q83) rfl rfl rfl (by decide +kernel) ⟨Nat.le_of_ble_eq_true rfl, Nat.le_of_ble_eq_true rfl⟩) hP hD hS hK hA [] [0] rfl rfl rfl rfl (by decide) rfl hl.1 rfl (Nat.le_of_ble_eq_true rfl) dX3_encodeSub_58 ⟨Nat.le_of_ble_eq_true rfl, Nat.le_of_ble_eq_true rfl⟩ (fun r5 _u H locs hw5 hP hD hS => ?_)
  have hP : va_P D vwCl [(h0, .inl (dT 2, 4, .inl f))] H := hP
  have hD : va_D A [(h0, .inl (dT 2, 4, .inl f))] := hD
  refine lv_ldc hx hb hown (hts _ q88) dX3_encodeSub_61 ?_
  refine lv_iand hx hb dX3_encodeSub_63 ?_
  refine lv_ixor hx hb dX3_encodeSub_64 ?_
  refine lv_topi (fun x5 ex5 => ?_)
  refine lv_istore_n (lv' := [(2, .int x5), (0, .ref h0), (1, .int b)]) hx hb dX3_encodeSub_65 rfl hl (by decide) rfl (fun ls hl => ?_)
  refine lv_aload_n hx hb dX3_encodeSub_66 rfl (lv_at hl 1 rfl) ?_
  refine lv_iconst (v := 0) hx hb dX3_encodeSub_67 (by decide) ?_
  refine lv_iload_n hx hb dX3_encodeSub_68 rfl (lv_at hl 0 rfl) ?_
  refine va_iast hx hb hK hP hD hS 0 2 rfl rfl (vin (k := 0) rfl (by decide) (by decide)) dX3_encodeSub_69 (fun H locs hP hD hS => ?_)
  obtain ⟨f0, ef0⟩ : ∃ g : Nat → Int32, g = upd f (0 : Int32).toNatClampNeg x5 := ⟨_, rfl⟩
  have hP : va_P D vwCl [(h0, .inl (dT 2, 4, .inl f0))] H := by rw [ef0]; exact hP
  have hD : va_D A [(h0, .inl (dT 2, 4, .inl f0))] := by rw [ef0]; exact hD
  refine lv_iload_n hx hb dX3_encodeSub_70 rfl (lv_at hl 0 rfl) ?_
  refine lv_iload_n hx hb dX3_encodeSub_71 rfl (lv_at hl 2 rfl) ?_
  refine lv_iconst (v := 5) hx hb dX3_encodeSub_72 (by decide) ?_
  refine lv_ishr hx hb dX3_encodeSub_73 ?_
  refine cl_Si (As := [.int (b >>> (5 &&& 31))]) (rest := [.int x5]) (wr := [(h0, .inl (dT 2, 4, .inl f0))]) (met_Bit0Mask l D dT (b >>> (5 &&& 31))) ⟨hx, hb, hml, hown, hts⟩ (va_cwS 1 hts (lw_S q81 q82 q3 q83) rfl rfl rfl (by decide +kernel) ⟨Nat.le_of_ble_eq_true rfl, Nat.le_of_ble_eq_true rfl⟩) hP hD hS hK hA [] [0] rfl rfl rfl rfl (by decide) rfl hl.1 rfl (Nat.le_of_ble_eq_true rfl) dX3_encodeSub_74 ⟨Nat.le_of_ble_eq_true rfl, Nat.le_of_ble_eq_true rfl⟩ (fun r6 _u H locs hw6 hP hD hS => ?_)
  have hP : va_P D vwCl [(h0, .inl (dT 2, 4, .inl f0))] H := hP
  have hD : va_D A [(h0, .inl (dT 2, 4, .inl f0))] := hD
  refine lv_ixor hx hb dX3_encodeSub_77 ?_
  refine lv_topi (fun x6 ex6 => ?_)
  refine lv_istore_n (lv' := [(2, .int x6), (0, .ref h0), (1, .int b)]) hx hb dX3_encodeSub_78 rfl hl (by decide) rfl (fun ls hl => ?_)
  refine lv_aload_n hx hb dX3_encodeSub_79 rfl (lv_at hl 1 rfl) ?_
  refine lv_iconst (v := 1) hx hb dX3_encodeSub_80 (by decide) ?_
  refine lv_iload_n hx hb dX3_encodeSub_81 rfl (lv_at hl 0 rfl) ?_
  refine va_iast hx hb hK hP hD hS 0 2 rfl rfl (vin (k := 1) rfl (by decide) (by decide)) dX3_encodeSub_82 (fun H locs hP hD hS => ?_)
  obtain ⟨f1, ef1⟩ : ∃ g : Nat → Int32, g = upd f0 (1 : Int32).toNatClampNeg x6 := ⟨_, rfl⟩
  have hP : va_P D vwCl [(h0, .inl (dT 2, 4, .inl f1))] H := by rw [ef1]; exact hP
  have hD : va_D A [(h0, .inl (dT 2, 4, .inl f1))] := by rw [ef1]; exact hD
  refine lv_iload_n hx hb dX3_encodeSub_83 rfl (lv_at hl 0 rfl) ?_
  refine lv_iload_n hx hb dX3_encodeSub_84 rfl (lv_at hl 2 rfl) ?_
  refine lv_bipush (v := 6) hx hb dX3_encodeSub_85 (by decide) ?_
  refine lv_ishr hx hb dX3_encodeSub_87 ?_
  refine cl_Si (As := [.int (b >>> (6 &&& 31))]) (rest := [.int x6]) (wr := [(h0, .inl (dT 2, 4, .inl f1))]) (met_Bit0Mask l D dT (b >>> (6 &&& 31))) ⟨hx, hb, hml, hown, hts⟩ (va_cwS 1 hts (lw_S q81 q82 q3 q83) rfl rfl rfl (by decide +kernel) ⟨Nat.le_of_ble_eq_true rfl, Nat.le_of_ble_eq_true rfl⟩) hP hD hS hK hA [] [0] rfl rfl rfl rfl (by decide) rfl hl.1 rfl (Nat.le_of_ble_eq_true rfl) dX3_encodeSub_88 ⟨Nat.le_of_ble_eq_true rfl, Nat.le_of_ble_eq_true rfl⟩ (fun r7 _u H locs hw7 hP hD hS => ?_)
  have hP : va_P D vwCl [(h0, .inl (dT 2, 4, .inl f1))] H := hP
  have hD : va_D A [(h0, .inl (dT 2, 4, .inl f1))] := hD
  refine lv_ixor hx hb dX3_encodeSub_91 ?_
  refine lv_topi (fun x7 ex7 => ?_)
  refine lv_istore_n (lv' := [(2, .int x7), (0, .ref h0), (1, .int b)]) hx hb dX3_encodeSub_92 rfl hl (by decide) rfl (fun ls hl => ?_)
  refine lv_aload_n hx hb dX3_encodeSub_93 rfl (lv_at hl 1 rfl) ?_
  refine lv_iconst (v := 3) hx hb dX3_encodeSub_94 (by decide) ?_
  refine lv_iload_n hx hb dX3_encodeSub_95 rfl (lv_at hl 0 rfl) ?_
  refine va_iast hx hb hK hP hD hS 0 2 rfl rfl (vin (k := 3) rfl (by decide) (by decide)) dX3_encodeSub_96 (fun H locs hP hD hS => ?_)
  obtain ⟨f3, ef3⟩ : ∃ g : Nat → Int32, g = upd f1 (3 : Int32).toNatClampNeg x7 := ⟨_, rfl⟩
  have hP : va_P D vwCl [(h0, .inl (dT 2, 4, .inl f3))] H := by rw [ef3]; exact hP
  have hD : va_D A [(h0, .inl (dT 2, 4, .inl f3))] := by rw [ef3]; exact hD
  refine lv_iload_n hx hb dX3_encodeSub_97 rfl (lv_at hl 0 rfl) ?_
  refine lv_iload_n hx hb dX3_encodeSub_98 rfl (lv_at hl 2 rfl) ?_
  refine lv_iconst (v := 5) hx hb dX3_encodeSub_99 (by decide) ?_
  refine lv_ishr hx hb dX3_encodeSub_100 ?_
  refine cl_Si (As := [.int (b >>> (5 &&& 31))]) (rest := [.int x7]) (wr := [(h0, .inl (dT 2, 4, .inl f3))]) (met_Bit0Mask l D dT (b >>> (5 &&& 31))) ⟨hx, hb, hml, hown, hts⟩ (va_cwS 1 hts (lw_S q81 q82 q3 q83) rfl rfl rfl (by decide +kernel) ⟨Nat.le_of_ble_eq_true rfl, Nat.le_of_ble_eq_true rfl⟩) hP hD hS hK hA [] [0] rfl rfl rfl rfl (by decide) rfl hl.1 rfl (Nat.le_of_ble_eq_true rfl) dX3_encodeSub_101 ⟨Nat.le_of_ble_eq_true rfl, Nat.le_of_ble_eq_true rfl⟩ (fun r8 _u H locs hw8 hP hD hS => ?_)
  have hP : va_P D vwCl [(h0, .inl (dT 2, 4, .inl f3))] H := hP
  have hD : va_D A [(h0, .inl (dT 2, 4, .inl f3))] := hD
  refine lv_ixor hx hb dX3_encodeSub_104 ?_
  refine lv_topi (fun x8 ex8 => ?_)
  refine lv_istore_n (lv' := [(2, .int x8), (0, .ref h0), (1, .int b)]) hx hb dX3_encodeSub_105 rfl hl (by decide) rfl (fun ls hl => ?_)
  refine lv_aload_n hx hb dX3_encodeSub_106 rfl (lv_at hl 1 rfl) ?_
  refine lv_iconst (v := 2) hx hb dX3_encodeSub_107 (by decide) ?_
  refine lv_iload_n hx hb dX3_encodeSub_108 rfl (lv_at hl 0 rfl) ?_
  refine va_iast hx hb hK hP hD hS 0 2 rfl rfl (vin (k := 2) rfl (by decide) (by decide)) dX3_encodeSub_109 (fun H locs hP hD hS => ?_)
  obtain ⟨f2, ef2⟩ : ∃ g : Nat → Int32, g = upd f3 (2 : Int32).toNatClampNeg x8 := ⟨_, rfl⟩
  have hP : va_P D vwCl [(h0, .inl (dT 2, 4, .inl f2))] H := by rw [ef2]; exact hP
  have hD : va_D A [(h0, .inl (dT 2, 4, .inl f2))] := by rw [ef2]; exact hD
  rw [hQ]
  refine rt_v hx hb hr hlocks f2 ?_ hP hD hS (Nat.le_refl _) (Nat.le_refl _) dX3_encodeSub_110
  have k0 : x5 = esA b := by rw [ex5, ex4, ex3, ex2, ex1, ex0, hw5, hw4, hw3, hw2, hw1, hw0]; rfl
  have k1 : x6 = esB b := by rw [ex6, k0, hw6]; rfl
  have k3 : x7 = esD b := by rw [ex7, k1, hw7]; rfl
  have k2 : x8 = esC b := by rw [ex8, k3, hw8]; rfl
  rw [ef2, ef3, ef1, ef0, ← k0, ← k1, ← k2, ← k3]
  exact ⟨rfl, rfl, rfl, rfl⟩
abbrev rm_X3_encode : Room := { frames := 2, cells := 1, slots := 4, locals := 60 }
set_option maxHeartbeats 4000000 in
set_option maxRecDepth 100000 in
/-- the word of each of the four letters, three times -/
theorem met_encode (l : Launch) (D : va_G) (dT : Nat → ClassId) (hc hb0 : Nat) (w : Nat → Int64) (lb : Nat → Int32) : ∀ sz : Nat, Met l yX3_encode (ws_ yX3_encode cX3_encode 12 none) rm_X3_encode (va_Pc [.ref hc, .ref hb0, .int 4, .int 3] (PCx D dT sz [(hc, .inl (dT 1, 24, .inr (.inl w))), (hb0, .inl (dT 0, 4, .inl lb))])) (va_Qv (fun (u : Nat → Int64) => Enc lb 12 u) (BCx D (fun u : Nat → Int64 => [(hc, .inl (dT 1, 24, .inr (.inl u))), (hb0, .inl (dT 0, 4, .inl lb))]) (va_A [(hc, .inl (dT 1, 24, .inr (.inl w))), (hb0, .inl (dT 0, 4, .inl lb))] sz)) (va_A [(hc, .inl (dT 1, 24, .inr (.inl w))), (hb0, .inl (dT 0, 4, .inl lb))] sz)) 1 4 (va_A [(hc, .inl (dT 1, 24, .inr (.inl w))), (hb0, .inl (dT 0, 4, .inl lb))] sz) := by
  refine mt_of (Qc := fun A => (va_Qv (fun (u : Nat → Int64) => Enc lb 12 u) (BCx D (fun u : Nat → Int64 => [(hc, .inl (dT 1, 24, .inr (.inl u))), (hb0, .inl (dT 0, 4, .inl lb))]) A) A)) (mc := 1) (ms := 4) (by decide) (Nat.le_of_ble_eq_true rfl) ?_
  intro p e s m args below meth c hx hb hr hlocks hml hts hown hnm A hA H locs hP hD hK hS ls hl Q hQ
  have hown : s.vm.findClass RX3 = some m.cls := hown
  have hl : lv_has ls 12 [(0, .ref hc), (1, .ref hb0), (2, .int 4), (3, .int 3)] := hl
  refine lv_iconst (v := 4) hx hb dX3_encode_0 (by decide) ?_
  refine nw_i (N := 4) hx hb hts hK hP hD hS hA (by decide) (by decide) (Nat.le_of_ble_eq_true rfl) (Nat.le_of_ble_eq_true rfl) (Nat.le_of_ble_eq_true rfl) dX3_encode_1 (fun q4 H hP hD hS => ?_)
  have hP : va_P D vwCl [(hc, .inl (dT 1, 24, .inr (.inl w))), (hb0, .inl (dT 0, 4, .inl lb)), (q4, .inl (dT 2, 4, .inl (fun _ => 0)))] H := hP
  have hD : va_D A [(hc, .inl (dT 1, 24, .inr (.inl w))), (hb0, .inl (dT 0, 4, .inl lb)), (q4, .inl (dT 2, 4, .inl (fun _ => 0)))] := hD
  refine lv_astore (lv' := [(4, .ref q4), (0, .ref hc), (1, .ref hb0), (2, .int 4), (3, .int 3)]) hx hb dX3_encode_3 hl (by decide) rfl (fun ls hl => ?_)
  refine lv_iconst (v := 0) hx hb dX3_encode_5 (by decide) ?_
  refine lv_istore (lv' := [(5, .int 0), (4, .ref q4), (0, .ref hc), (1, .ref hb0), (2, .int 4), (3, .int 3)]) hx hb dX3_encode_6 hl (by decide) rfl (fun ls hl => ?_)
  refine lv_iconst (v := 0) hx hb dX3_encode_8 (by decide) ?_
  refine lv_istore (lv' := [(6, .int 0), (5, .int 0), (4, .ref q4), (0, .ref hc), (1, .ref hb0), (2, .int 4), (3, .int 3)]) hx hb dX3_encode_9 hl (by decide) rfl (fun ls hl => ?_)
  have outer : ∀ (n : Nat) (i : Nat) (x5 x6 : Int32) (u : Nat → Int64) (v : Nat → Int32) (H : Heap) (locs : List Loc) (ls : Array Slot), i ≤ 4 → 5 ≤ i + n → x6 = nI i → x5 = nI (6 * i) → Enc lb (3 * i) u → va_P D vwCl [(hc, .inl (dT 1, 24, .inr (.inl u))), (hb0, .inl (dT 0, 4, .inl lb)), (q4, .inl (dT 2, 4, .inl v))] H → va_D A [(hc, .inl (dT 1, 24, .inr (.inl u))), (hb0, .inl (dT 0, 4, .inl lb)), (q4, .inl (dT 2, 4, .inl v))] → va_S A s.heap H locs → lv_has ls 12 [(0, .ref hc), (1, .ref hb0), (2, .int 4), (3, .int 3), (4, .ref q4), (5, .int x5), (6, .int x6)] → W p l e rm_X3_encode s m args below meth c H locs 1 4 Q (F0 m 11 ls []) := by
    intro n
    induction n with
    | zero =>
      intro i x5 x6 u v H locs ls h1 h2 h3 h4 h5
      exact absurd h2 (by omega)
    | succ n ih =>
      intro i x5 x6 u v H locs ls h1 h2 h3 h4 h5 hP hD hS hl
      refine lv_iload hx hb dX3_encode_11 (lv_at hl 6 rfl) ?_
      refine lv_iload_n hx hb dX3_encode_13 rfl (lv_at hl 2 rfl) ?_
      refine lv_icmp_ge (tgt := 104) hx hb dX3_encode_14 (by decide) (fun c14 => ?_) (fun c14 => ?_)
      · have hi : i = 4 := by have := ge_t c14 h3 (show (4 : Int32) = nI 4 from rfl) (by omega) (by omega); omega
        subst hi
        have hP9 := hP.sub (ws' := [(hc, .inl (dT 1, 24, .inr (.inl u))), (hb0, .inl (dT 0, 4, .inl lb))]) [0, 1] rfl
        have hD9 := hD.sub (ws' := [(hc, .inl (dT 1, 24, .inr (.inl u))), (hb0, .inl (dT 0, 4, .inl lb))]) [0, 1] (by decide) rfl
        rw [hQ]
        exact rt_v hx hb hr hlocks u h5 hP9 hD9 hS (Nat.le_refl _) (Nat.le_refl _) dX3_encode_104
      · have hi : i < 4 := ge_f c14 h3 (show (4 : Int32) = nI 4 from rfl) (by omega) (by omega)
        refine lv_aload hx hb dX3_encode_17 (lv_at hl 4 rfl) ?_
        refine lv_aload_n hx hb dX3_encode_19 rfl (lv_at hl 1 rfl) ?_
        refine lv_iload hx hb dX3_encode_20 (lv_at hl 6 rfl) ?_
        refine va_bald hx hb hK hP 1 0 rfl rfl (vin h3 hi (by decide)) dX3_encode_22 ?_
        refine lv_topi (fun b eb => ?_)
        rw [cln h3 (by omega)] at eb
        refine cl_Sv (As := [.ref q4, .int b]) (rest := []) (wr := [(hc, .inl (dT 1, 24, .inr (.inl u))), (hb0, .inl (dT 0, 4, .inl lb))]) (met_encodeSub l D dT q4 v b) ⟨hx, hb, hml, hown, hts⟩ (va_cwS 2 hts (lw_S q78 q79 q3 q80) rfl rfl rfl (by decide +kernel) ⟨Nat.le_of_ble_eq_true rfl, Nat.le_of_ble_eq_true rfl⟩) hP hD hS hK hA [2] [0, 1] rfl rfl rfl rfl (by decide) rfl hl.1 rfl (Nat.le_of_ble_eq_true rfl) dX3_encode_23 ⟨Nat.le_of_ble_eq_true rfl, Nat.le_of_ble_eq_true rfl⟩ (fun v2 H locs hv hP hD hS => ?_)
        have hP : va_P D vwCl [(hc, .inl (dT 1, 24, .inr (.inl u))), (hb0, .inl (dT 0, 4, .inl lb)), (q4, .inl (dT 2, 4, .inl v2))] H := hP
        have hD : va_D A [(hc, .inl (dT 1, 24, .inr (.inl u))), (hb0, .inl (dT 0, 4, .inl lb)), (q4, .inl (dT 2, 4, .inl v2))] := hD
        obtain ⟨hv0, hv1, hv2, hv3⟩ := hv
        refine lv_aload hx hb dX3_encode_26 (lv_at hl 4 rfl) ?_
        refine lv_iconst (v := 0) hx hb dX3_encode_28 (by decide) ?_
        refine va_iald hx hb hK hP 2 2 rfl rfl (vin (k := 0) rfl (by decide) (by decide)) dX3_encode_29 ?_
        refine lv_i2l hx hb dX3_encode_30 rfl ?_
        refine lv_ldc2 hx hb hown (hts _ q89) dX3_encode_31 ?_
        refine lv_land hx hb dX3_encode_34 ?_
        refine lv_aload hx hb dX3_encode_35 (lv_at hl 4 rfl) ?_
        refine lv_iconst (v := 1) hx hb dX3_encode_37 (by decide) ?_
        refine va_iald hx hb hK hP 2 2 rfl rfl (vin (k := 1) rfl (by decide) (by decide)) dX3_encode_38 ?_
        refine lv_i2l hx hb dX3_encode_39 rfl ?_
        refine lv_bipush (v := 32) hx hb dX3_encode_40 (by decide) ?_
        refine lv_lshl hx hb dX3_encode_42 rfl ?_
        refine lv_lor hx hb dX3_encode_43 ?_
        refine lv_topl (fun lo elo => ?_)
        refine lv_lstore (lv' := [(7, .long lo), (0, .ref hc), (1, .ref hb0), (2, .int 4), (3, .int 3), (4, .ref q4), (5, .int x5), (6, .int x6)]) hx hb dX3_encode_44 hl (by decide) rfl (fun ls hl => ?_)
        refine lv_aload hx hb dX3_encode_46 (lv_at hl 5 rfl) ?_
        refine lv_iconst (v := 2) hx hb dX3_encode_48 (by decide) ?_
        refine va_iald hx hb hK hP 2 2 rfl rfl (vin (k := 2) rfl (by decide) (by decide)) dX3_encode_49 ?_
        refine lv_i2l hx hb dX3_encode_50 rfl ?_
        refine lv_ldc2 hx hb hown (hts _ q89) dX3_encode_51 ?_
        refine lv_land hx hb dX3_encode_54 ?_
        refine lv_aload hx hb dX3_encode_55 (lv_at hl 5 rfl) ?_
        refine lv_iconst (v := 3) hx hb dX3_encode_57 (by decide) ?_
        refine va_iald hx hb hK hP 2 2 rfl rfl (vin (k := 3) rfl (by decide) (by decide)) dX3_encode_58 ?_
        refine lv_i2l hx hb dX3_encode_59 rfl ?_
        refine lv_bipush (v := 32) hx hb dX3_encode_60 (by decide) ?_
        refine lv_lshl hx hb dX3_encode_62 rfl ?_
        refine lv_lor hx hb dX3_encode_63 ?_
        refine lv_topl (fun hi9 ehi9 => ?_)
        refine lv_lstore (lv' := [(9, .long hi9), (7, .long lo), (0, .ref hc), (1, .ref hb0), (2, .int 4), (3, .int 3), (4, .ref q4), (5, .int x5), (6, .int x6)]) hx hb dX3_encode_64 hl (by decide) rfl (fun ls hl => ?_)
        refine lv_iconst (v := 0) hx hb dX3_encode_66 (by decide) ?_
        refine lv_istore (lv' := [(11, .int 0), (9, .long hi9), (7, .long lo), (0, .ref hc), (1, .ref hb0), (2, .int 4), (3, .int 3), (4, .ref q4), (5, .int x5), (6, .int x6)]) hx hb dX3_encode_67 hl (by decide) rfl (fun ls hl => ?_)
        have elo : lo = loW (lb i) := by
          rw [elo, cl_0, cl_1, hv0, hv1, eb]; rfl
        have ehi : hi9 = hiW (lb i) := by
          rw [ehi9, cl_2, cl_3, hv2, hv3, eb]; rfl
        have inner : ∀ (n : Nat) (j : Nat) (x5 x11 : Int32) (u : Nat → Int64) (H : Heap) (locs : List Loc) (ls : Array Slot), j ≤ 3 → 4 ≤ j + n → x11 = nI j → x5 = nI (6 * i + 2 * j) → Enc lb (3 * i + j) u → va_P D vwCl [(hc, .inl (dT 1, 24, .inr (.inl u))), (hb0, .inl (dT 0, 4, .inl lb)), (q4, .inl (dT 2, 4, .inl v2))] H → va_D A [(hc, .inl (dT 1, 24, .inr (.inl u))), (hb0, .inl (dT 0, 4, .inl lb)), (q4, .inl (dT 2, 4, .inl v2))] → va_S A s.heap H locs → lv_has ls 12 [(0, .ref hc), (1, .ref hb0), (2, .int 4), (3, .int 3), (4, .ref q4), (5, .int x5), (6, .int x6), (7, .long lo), (9, .long hi9), (11, .int x11)] → W p l e rm_X3_encode s m args below meth c H locs 1 4 Q (F0 m 69 ls []) := by
          intro n
          induction n with
          | zero =>
            intro j x5 x11 u H locs ls g1 g2 g3 g4 g5
            exact absurd g2 (by omega)
          | succ n jh =>
            intro j x5 x11 u H locs ls g1 g2 g3 g4 g5 hP hD hS hl
            refine lv_iload hx hb dX3_encode_69 (lv_at hl 9 rfl) ?_
            refine lv_iload_n hx hb dX3_encode_71 rfl (lv_at hl 3 rfl) ?_
            refine lv_icmp_ge (tgt := 98) hx hb dX3_encode_72 (by decide) (fun c72 => ?_) (fun c72 => ?_)
            · have hj : j = 3 := by have := ge_t c72 g3 (show (3 : Int32) = nI 3 from rfl) (by omega) (by omega); omega
              subst hj
              obtain ⟨x6b, ex6b⟩ : ∃ y : Int32, y = x6 + 1 := ⟨_, rfl⟩
              refine lv_iinc (v := x6b) (lv' := [(6, .int x6b), (0, .ref hc), (1, .ref hb0), (2, .int 4), (3, .int 3), (4, .ref q4), (5, .int x5), (7, .long lo), (9, .long hi9), (11, .int x11)]) hx hb dX3_encode_98 hl (k := 6) rfl (by rw [ex6b]; rfl) (by decide) rfl (fun ls hl => ?_)
              refine lv_goto (tgt := 11) hx hb dX3_encode_101 (by decide) ?_
              exact ih (i + 1) x5 x6b u v2 _ _ _ (by omega) (by omega) (by rw [ex6b]; exact ad1 h3) (by rw [g4]; exact nIe (by omega)) g5 hP hD hS (lv_sub hl [1, 2, 3, 4, 5, 6, 0] rfl)
            · have hj : j < 3 := ge_f c72 g3 (show (3 : Int32) = nI 3 from rfl) (by omega) (by omega)
              refine lv_aload_n hx hb dX3_encode_75 rfl (lv_at hl 0 rfl) ?_
              refine lv_iload hx hb dX3_encode_76 (lv_at hl 5 rfl) ?_
              refine lv_lload hx hb dX3_encode_78 (lv_at hl 7 rfl) ?_
              refine va_last hx hb hK hP hD hS 0 1 rfl rfl (vin g4 (by omega) (by decide)) dX3_encode_80 (fun H locs hP hD hS => ?_)
              obtain ⟨u1, eu1⟩ : ∃ g : Nat → Int64, g = vp_updL u (x5 : Int32).toNatClampNeg lo := ⟨_, rfl⟩
              have hP : va_P D vwCl [(hc, .inl (dT 1, 24, .inr (.inl u1))), (hb0, .inl (dT 0, 4, .inl lb)), (q4, .inl (dT 2, 4, .inl v2))] H := by rw [eu1]; exact hP
              have hD : va_D A [(hc, .inl (dT 1, 24, .inr (.inl u1))), (hb0, .inl (dT 0, 4, .inl lb)), (q4, .inl (dT 2, 4, .inl v2))] := by rw [eu1]; exact hD
              refine lv_aload_n hx hb dX3_encode_81 rfl (lv_at hl 0 rfl) ?_
              refine lv_iload hx hb dX3_encode_82 (lv_at hl 5 rfl) ?_
              refine lv_iconst (v := 1) hx hb dX3_encode_84 (by decide) ?_
              refine lv_iadd hx hb dX3_encode_85 ?_
              refine lv_lload hx hb dX3_encode_86 (lv_at hl 8 rfl) ?_
              refine va_last hx hb hK hP hD hS 0 1 rfl rfl (vin (adN g4 (show (1 : Int32) = nI 1 from rfl)) (by omega) (by decide)) dX3_encode_88 (fun H locs hP hD hS => ?_)
              obtain ⟨u2, eu2⟩ : ∃ g : Nat → Int64, g = vp_updL u1 ((x5 + 1) : Int32).toNatClampNeg hi9 := ⟨_, rfl⟩
              have hP : va_P D vwCl [(hc, .inl (dT 1, 24, .inr (.inl u2))), (hb0, .inl (dT 0, 4, .inl lb)), (q4, .inl (dT 2, 4, .inl v2))] H := by rw [eu2]; exact hP
              have hD : va_D A [(hc, .inl (dT 1, 24, .inr (.inl u2))), (hb0, .inl (dT 0, 4, .inl lb)), (q4, .inl (dT 2, 4, .inl v2))] := by rw [eu2]; exact hD
              obtain ⟨x5b, ex5b⟩ : ∃ y : Int32, y = x5 + 2 := ⟨_, rfl⟩
              refine lv_iinc (v := x5b) (lv' := [(5, .int x5b), (0, .ref hc), (1, .ref hb0), (2, .int 4), (3, .int 3), (4, .ref q4), (6, .int x6), (7, .long lo), (9, .long hi9), (11, .int x11)]) hx hb dX3_encode_89 hl (k := 5) rfl (by rw [ex5b]; rfl) (by decide) rfl (fun ls hl => ?_)
              obtain ⟨x11b, ex11b⟩ : ∃ y : Int32, y = x11 + 1 := ⟨_, rfl⟩
              refine lv_iinc (v := x11b) (lv' := [(11, .int x11b), (5, .int x5b), (0, .ref hc), (1, .ref hb0), (2, .int 4), (3, .int 3), (4, .ref q4), (6, .int x6), (7, .long lo), (9, .long hi9)]) hx hb dX3_encode_92 hl (k := 9) rfl (by rw [ex11b]; rfl) (by decide) rfl (fun ls hl => ?_)
              refine lv_goto (tgt := 69) hx hb dX3_encode_95 (by decide) ?_
              rw [cln g4 (by omega)] at eu1
              rw [cln (adN g4 (show (1 : Int32) = nI 1 from rfl)) (by omega)] at eu2
              have hE : Enc lb (3 * i + (j + 1)) u2 := by
                intro q hq
                by_cases hq2 : q = 3 * i + j
                · have e3 : q / 3 = i := by omega
                  rw [e3]
                  refine ⟨?_, ?_⟩
                  · rw [updL_ne eu2 (by omega), updL_at eu1 (by omega), elo]
                  · rw [updL_at eu2 (by omega), ehi]
                · rw [updL_ne eu2 (by omega), updL_ne eu2 (by omega), updL_ne eu1 (by omega), updL_ne eu1 (by omega)]
                  exact g5 q (by omega)
              exact jh (j + 1) x5b x11b u2 _ _ _ (by omega) (by omega) (by rw [ex11b]; exact ad1 g3) (by rw [ex5b, adN g4 (show (2 : Int32) = nI 2 from rfl)]; exact nIe (by omega)) hE hP hD hS (lv_sub hl [2, 3, 4, 5, 6, 1, 7, 8, 9, 0] rfl)
        exact inner 4 0 x5 0 u _ _ _ (by omega) (by omega) rfl h4 h5 hP hD hS (lv_sub hl [3, 4, 5, 6, 7, 8, 9, 2, 1, 0] rfl)
  exact outer 5 0 0 0 w (fun _ => 0) _ _ _ (by omega) (by omega) rfl rfl (fun q hq => absurd hq (by omega)) hP hD hS (lv_sub hl [3, 4, 5, 6, 2, 1, 0] rfl)
end
section
/-! Utils, ReedMuller: the reading side -/
set_option maxRecDepth 100000
abbrev rm_X4_from : Room := { frames := 0, cells := 0, slots := 0, locals := 0 }
set_option maxHeartbeats 4000000 in
set_option maxRecDepth 100000 in
/-- longs cut into halves -/
theorem met_from (l : Launch) (D : va_G) (dT : Nat → ClassId) (ho hi : Nat) (f : Nat → Int32) (w : Nat → Int64) : ∀ sz : Nat, Met l yX4_fromLongArrayToByte32Array (ws_ yX4_fromLongArrayToByte32Array cX4_fromLongArrayToByte32Array 3 none) rm_X4_from (va_Pc [.ref ho, .ref hi] (PCx D dT sz [(ho, .inl (dT 2, 48, .inl f)), (hi, .inl (dT 1, 24, .inr (.inl w)))])) (va_Qv (fun (u : Nat → Int32) => ∀ q, q < 48 → u q = cwOf w q) (BCx D (fun u : Nat → Int32 => [(ho, .inl (dT 2, 48, .inl u)), (hi, .inl (dT 1, 24, .inr (.inl w)))]) (va_A [(ho, .inl (dT 2, 48, .inl f)), (hi, .inl (dT 1, 24, .inr (.inl w)))] sz)) (va_A [(ho, .inl (dT 2, 48, .inl f)), (hi, .inl (dT 1, 24, .inr (.inl w)))] sz)) 0 0 (va_A [(ho, .inl (dT 2, 48, .inl f)), (hi, .inl (dT 1, 24, .inr (.inl w)))] sz) := by
  refine mt_of (Qc := fun A => (va_Qv (fun (u : Nat → Int32) => ∀ q, q < 48 → u q = cwOf w q) (BCx D (fun u : Nat → Int32 => [(ho, .inl (dT 2, 48, .inl u)), (hi, .inl (dT 1, 24, .inr (.inl w)))]) A) A)) (mc := 0) (ms := 0) (by decide) (Nat.le_of_ble_eq_true rfl) ?_
  intro p e s m args below meth c hx hb hr hlocks hml hts hown hnm A hA H locs hP hD hK hS ls hl Q hQ
  have hown : s.vm.findClass RX4 = some m.cls := hown
  have hl : lv_has ls 3 [(0, .ref ho), (1, .ref hi)] := hl
  refine lv_iconst (v := 0) hx hb dX4_fromLongArrayToByte32Array_0 (by decide) ?_
  refine lv_istore_n (lv' := [(2, .int 0), (0, .ref ho), (1, .ref hi)]) hx hb dX4_fromLongArrayToByte32Array_1 rfl hl (by decide) rfl (fun ls hl => ?_)
  have outer : ∀ (n : Nat) (i : Nat) (x2 : Int32) (u : Nat → Int32) (H : Heap) (locs : List Loc) (ls : Array Slot), i ≤ 24 → 25 ≤ i + n → x2 = nI i → (∀ q, q < 2 * i → u q = cwOf w q) → va_P D vwCl [(ho, .inl (dT 2, 48, .inl u)), (hi, .inl (dT 1, 24, .inr (.inl w)))] H → va_D A [(ho, .inl (dT 2, 48, .inl u)), (hi, .inl (dT 1, 24, .inr (.inl w)))] → va_S A s.heap H locs → lv_has ls 3 [(0, .ref ho), (1, .ref hi), (2, .int x2)] → W p l e rm_X4_from s m args below meth c H locs 0 0 Q (F0 m 2 ls []) := by
    intro n
    induction n with
    | zero =>
      intro i x2 u H locs ls h1 h2 h3 h4
      exact absurd h2 (by omega)
    | succ n ih =>
      intro i x2 u H locs ls h1 h2 h3 h4 hP hD hS hl
      refine lv_iload_n hx hb dX4_fromLongArrayToByte32Array_2 rfl (lv_at hl 2 rfl) ?_
      refine lv_aload_n hx hb dX4_fromLongArrayToByte32Array_3 rfl (lv_at hl 1 rfl) ?_
      refine va_alen (v := 24) hx hb hK hP 1 1 rfl rfl rfl dX4_fromLongArrayToByte32Array_4 ?_
      refine lv_icmp_eq (tgt := 37) hx hb dX4_fromLongArrayToByte32Array_5 (by decide) (fun c5 => ?_) (fun c5 => ?_)
      · have hi9 : i = 24 := eq_t c5 h3 (show (24 : Int32) = nI 24 from rfl) (by omega) (by omega)
        subst hi9
        rw [hQ]
        exact rt_v hx hb hr hlocks u h4 hP hD hS (Nat.le_refl _) (Nat.le_refl _) dX4_fromLongArrayToByte32Array_37
      · have hi9 : i < 24 := by have := eq_f c5 h3 (show (24 : Int32) = nI 24 from rfl) (by omega) (by omega); omega
        have m0 : 2 * x2 = nI (2 * i) := muN (show (2 : Int32) = nI 2 from rfl) h3
        have m1 : 2 * x2 + 1 = nI (2 * i + 1) := ad1 m0
        refine lv_aload_n hx hb dX4_fromLongArrayToByte32Array_8 rfl (lv_at hl 0 rfl) ?_
        refine lv_iconst (v := 2) hx hb dX4_fromLongArrayToByte32Array_9 (by decide) ?_
        refine lv_iload_n hx hb dX4_fromLongArrayToByte32Array_10 rfl (lv_at hl 2 rfl) ?_
        refine lv_imul hx hb dX4_fromLongArrayToByte32Array_11 ?_
        refine lv_aload_n hx hb dX4_fromLongArrayToByte32Array_12 rfl (lv_at hl 1 rfl) ?_
        refine lv_iload_n hx hb dX4_fromLongArrayToByte32Array_13 rfl (lv_at hl 2 rfl) ?_
        refine va_lald hx hb hK hP 1 1 rfl rfl (vin h3 hi9 (by decide)) dX4_fromLongArrayToByte32Array_14 ?_
        refine lv_l2i hx hb dX4_fromLongArrayToByte32Array_15 rfl ?_
        refine va_iast hx hb hK hP hD hS 0 2 rfl rfl (vin m0 (by omega) (by decide)) dX4_fromLongArrayToByte32Array_16 (fun H locs hP hD hS => ?_)
        obtain ⟨u1, eu1⟩ : ∃ g : Nat → Int32, g = upd u ((2 * x2) : Int32).toNatClampNeg ((w x2.toNatClampNeg).toInt32) := ⟨_, rfl⟩
        have hP : va_P D vwCl [(ho, .inl (dT 2, 48, .inl u1)), (hi, .inl (dT 1, 24, .inr (.inl w)))] H := by rw [eu1]; exact hP
        have hD : va_D A [(ho, .inl (dT 2, 48, .inl u1)), (hi, .inl (dT 1, 24, .inr (.inl w)))] := by rw [eu1]; exact hD
        refine lv_aload_n hx hb dX4_fromLongArrayToByte32Array_17 rfl (lv_at hl 0 rfl) ?_
        refine lv_iconst (v := 2) hx hb dX4_fromLongArrayToByte32Array_18 (by decide) ?_
        refine lv_iload_n hx hb dX4_fromLongArrayToByte32Array_19 rfl (lv_at hl 2 rfl) ?_
        refine lv_imul hx hb dX4_fromLongArrayToByte32Array_20 ?_
        refine lv_iconst (v := 1) hx hb dX4_fromLongArrayToByte32Array_21 (by decide) ?_
        refine lv_iadd hx hb dX4_fromLongArrayToByte32Array_22 ?_
        refine lv_aload_n hx hb dX4_fromLongArrayToByte32Array_23 rfl (lv_at hl 1 rfl) ?_
        refine lv_iload_n hx hb dX4_fromLongArrayToByte32Array_24 rfl (lv_at hl 2 rfl) ?_
        refine va_lald hx hb hK hP 1 1 rfl rfl (vin h3 hi9 (by decide)) dX4_fromLongArrayToByte32Array_25 ?_
        refine lv_bipush (v := 32) hx hb dX4_fromLongArrayToByte32Array_26 (by decide) ?_
        refine lv_lshr hx hb dX4_fromLongArrayToByte32Array_28 rfl ?_
        refine lv_l2i hx hb dX4_fromLongArrayToByte32Array_29 rfl ?_
        refine va_iast hx hb hK hP hD hS 0 2 rfl rfl (vin m1 (by omega) (by decide)) dX4_fromLongArrayToByte32Array_30 (fun H locs hP hD hS => ?_)
        obtain ⟨u2, eu2⟩ : ∃ g : Nat → Int32, g = upd u1 (((2 * x2) + 1) : Int32).toNatClampNeg (((w x2.toNatClampNeg) >>> ((32 : Int32).toInt64 &&& 63)).toInt32) := ⟨_, rfl⟩
        have hP : va_P D vwCl [(ho, .inl (dT 2, 48, .inl u2)), (hi, .inl (dT 1, 24, .inr (.inl w)))] H := by rw [eu2]; exact hP
        have hD : va_D A [(ho, .inl (dT 2, 48, .inl u2)), (hi, .inl (dT 1, 24, .inr (.inl w)))] := by rw [eu2]; exact hD
        obtain ⟨x2b, ex2b⟩ : ∃ y : Int32, y = x2 + 1 := ⟨_, rfl⟩
        refine lv_iinc (v := x2b) (lv' := [(2, .int x2b), (0, .ref ho), (1, .ref hi)]) hx hb dX4_fromLongArrayToByte32Array_31 hl (k := 2) rfl (by rw [ex2b]; rfl) (by decide) rfl (fun ls hl => ?_)
        refine lv_goto (tgt := 2) hx hb dX4_fromLongArrayToByte32Array_34 (by decide) ?_
        rw [cln m0 (by omega), cln h3 (by omega)] at eu1
        rw [cln m1 (by omega), cln h3 (by omega)] at eu2
        have hN : ∀ q, q < 2 * (i + 1) → u2 q = cwOf w q := by
          intro q hq
          by_cases q1 : q = 2 * i + 1
          · rw [upd_at eu2 q1, q1]
            unfold cwOf
            rw [if_neg (by omega), show (2 * i + 1) / 2 = i by omega]
          · by_cases q0 : q = 2 * i
            · rw [upd_ne eu2 q1, upd_at eu1 q0, q0]
              unfold cwOf
              rw [if_pos (by omega), show 2 * i / 2 = i by omega]
            · rw [upd_ne eu2 q1, upd_ne eu1 q0]
              exact h4 q (by omega)
        exact ih (i + 1) x2b u2 _ _ _ (by omega) (by omega) (by rw [ex2b]; exact ad1 h3) hN hP hD hS (lv_sub hl [1, 2, 0] rfl)
  exact outer 25 0 0 f _ _ _ (by omega) (by omega) rfl (fun q hq => absurd hq (by omega)) hP hD hS (lv_sub hl [1, 2, 0] rfl)
abbrev rm_X3_expand : Room := { frames := 0, cells := 0, slots := 0, locals := 0 }
set_option maxHeartbeats 4000000 in
set_option maxRecDepth 100000 in
/-- the three copies, place by place, added -/
theorem met_expand (l : Launch) (D : va_G) (dT : Nat → ClassId) (b0 b1 : Nat) (f cw : Nat → Int32) (i : Nat) (hi : i < 4) (xo : Int32) (hxo : xo = nI (3 * i)) : ∀ sz : Nat, Met l yX3_expandThenSum (ws_ yX3_expandThenSum cX3_expandThenSum 11 none) rm_X3_expand (va_Pc [.ref b0, .ref b1, .int xo, .int 3] (PCx D dT sz [(b0, .inl (dT 2, 128, .inl f)), (b1, .inl (dT 2, 48, .inl cw))])) (va_Qv (fun (u : Nat → Int32) => ∀ q, q < 128 → u q = exc cw (12 * i) 2 q) (BCx D (fun u : Nat → Int32 => [(b0, .inl (dT 2, 128, .inl u)), (b1, .inl (dT 2, 48, .inl cw))]) (va_A [(b0, .inl (dT 2, 128, .inl f)), (b1, .inl (dT 2, 48, .inl cw))] sz)) (va_A [(b0, .inl (dT 2, 128, .inl f)), (b1, .inl (dT 2, 48, .inl cw))] sz)) 0 0 (va_A [(b0, .inl (dT 2, 128, .inl f)), (b1, .inl (dT 2, 48, .inl cw))] sz) := by
  refine mt_of (Qc := fun A => (va_Qv (fun (u : Nat → Int32) => ∀ q, q < 128 → u q = exc cw (12 * i) 2 q) (BCx D (fun u : Nat → Int32 => [(b0, .inl (dT 2, 128, .inl u)), (b1, .inl (dT 2, 48, .inl cw))]) A) A)) (mc := 0) (ms := 0) (by decide) (Nat.le_of_ble_eq_true rfl) ?_
  intro p e s m args below meth c hx hb hr hlocks hml hts hown hnm A hA H locs hP hD hK hS ls hl Q hQ
  have hown : s.vm.findClass RX3 = some m.cls := hown
  have hl : lv_has ls 11 [(0, .ref b0), (1, .ref b1), (2, .int xo), (3, .int 3)] := hl
  refine lv_iload_n hx hb dX3_expandThenSum_0 rfl (lv_at hl 2 rfl) ?_
  refine lv_iconst (v := 4) hx hb dX3_expandThenSum_1 (by decide) ?_
  refine lv_imul hx hb dX3_expandThenSum_2 ?_
  refine lv_topi (fun x4 ex4 => ?_)
  refine lv_istore (lv' := [(4, .int x4), (0, .ref b0), (1, .ref b1), (2, .int xo), (3, .int 3)]) hx hb dX3_expandThenSum_3 hl (by decide) rfl (fun ls hl => ?_)
  have hx4 : x4 = nI (12 * i) := by rw [ex4, muN hxo (show (4 : Int32) = nI 4 from rfl)]; exact nIe (by omega)
  have second : ∀ (n : Nat) (k : Nat) (x5 : Int32) (u : Nat → Int32) (H : Heap) (locs : List Loc) (ls : Array Slot), k ≤ 2 → 3 ≤ k + n → x5 = nI (k + 1) → (∀ q, q < 128 → u q = exc cw (12 * i) k q) → va_P D vwCl [(b0, .inl (dT 2, 128, .inl u)), (b1, .inl (dT 2, 48, .inl cw))] H → va_D A [(b0, .inl (dT 2, 128, .inl u)), (b1, .inl (dT 2, 48, .inl cw))] → va_S A s.heap H locs → lv_has ls 11 [(0, .ref b0), (1, .ref b1), (2, .int xo), (3, .int 3), (4, .int x4), (5, .int x5)] → W p l e rm_X3_expand s m args below meth c H locs 0 0 Q (F0 m 69 ls []) := by
    intro n
    induction n with
    | zero =>
      intro k x5 u H locs ls h1 h2 h3 h4
      exact absurd h2 (by omega)
    | succ n ih =>
      intro k x5 u H locs ls h1 h2 h3 h4 hP hD hS hl
      refine lv_iload hx hb dX3_expandThenSum_69 (lv_at hl 5 rfl) ?_
      refine lv_iload_n hx hb dX3_expandThenSum_71 rfl (lv_at hl 3 rfl) ?_
      refine lv_icmp_ge (tgt := 154) hx hb dX3_expandThenSum_72 (by decide) (fun c72 => ?_) (fun c72 => ?_)
      · have hk : k = 2 := by have := ge_t c72 h3 (show (3 : Int32) = nI 3 from rfl) (by omega) (by omega); omega
        subst hk
        rw [hQ]
        exact rt_v hx hb hr hlocks u h4 hP hD hS (Nat.le_refl _) (Nat.le_refl _) dX3_expandThenSum_154
      · have hk : k < 2 := by have := ge_f c72 h3 (show (3 : Int32) = nI 3 from rfl) (by omega) (by omega); omega
        refine lv_iload hx hb dX3_expandThenSum_75 (lv_at hl 4 rfl) ?_
        refine lv_iload hx hb dX3_expandThenSum_77 (lv_at hl 5 rfl) ?_
        refine lv_iconst (v := 4) hx hb dX3_expandThenSum_79 (by decide) ?_
        refine lv_imul hx hb dX3_expandThenSum_80 ?_
        refine lv_iadd hx hb dX3_expandThenSum_81 ?_
        refine lv_topi (fun x6 ex6 => ?_)
        refine lv_istore (lv' := [(6, .int x6), (0, .ref b0), (1, .ref b1), (2, .int xo), (3, .int 3), (4, .int x4), (5, .int x5)]) hx hb dX3_expandThenSum_82 hl (by decide) rfl (fun ls hl => ?_)
        refine lv_iconst (v := 0) hx hb dX3_expandThenSum_84 (by decide) ?_
        refine lv_istore (lv' := [(7, .int 0), (6, .int x6), (0, .ref b0), (1, .ref b1), (2, .int xo), (3, .int 3), (4, .int x4), (5, .int x5)]) hx hb dX3_expandThenSum_85 hl (by decide) rfl (fun ls hl => ?_)
        have hx6 : x6 = nI (12 * i + 4 * (k + 1)) := by rw [ex6, adN hx4 (muN h3 (show (4 : Int32) = nI 4 from rfl))]; exact nIe (by omega)
        have words : ∀ (n : Nat) (a : Nat) (x7 : Int32) (u : Nat → Int32) (H : Heap) (locs : List Loc) (ls : Array Slot), a ≤ 4 → 5 ≤ a + n → x7 = nI a → (∀ q, q < 128 → u q = if q < 32 * a then exc cw (12 * i) (k + 1) q else exc cw (12 * i) k q) → va_P D vwCl [(b0, .inl (dT 2, 128, .inl u)), (b1, .inl (dT 2, 48, .inl cw))] H → va_D A [(b0, .inl (dT 2, 128, .inl u)), (b1, .inl (dT 2, 48, .inl cw))] → va_S A s.heap H locs → lv_has ls 11 [(0, .ref b0), (1, .ref b1), (2, .int xo), (3, .int 3), (4, .int x4), (5, .int x5), (6, .int x6), (7, .int x7)] → W p l e rm_X3_expand s m args below meth c H locs 0 0 Q (F0 m 87 ls []) := by
          intro n
          induction n with
          | zero =>
            intro a x7 u H locs ls g1 g2 g3 g4
            exact absurd g2 (by omega)
          | succ n jh =>
            intro a x7 u H locs ls g1 g2 g3 g4 hP hD hS hl
            refine lv_iload hx hb dX3_expandThenSum_87 (lv_at hl 7 rfl) ?_
            refine lv_iconst (v := 4) hx hb dX3_expandThenSum_89 (by decide) ?_
            refine lv_icmp_ge (tgt := 148) hx hb dX3_expandThenSum_90 (by decide) (fun c90 => ?_) (fun c90 => ?_)
            · have ha : a = 4 := by have := ge_t c90 g3 (show (4 : Int32) = nI 4 from rfl) (by omega) (by omega); omega
              subst ha
              obtain ⟨x5b, ex5b⟩ : ∃ y : Int32, y = x5 + 1 := ⟨_, rfl⟩
              refine lv_iinc (v := x5b) (lv' := [(5, .int x5b), (0, .ref b0), (1, .ref b1), (2, .int xo), (3, .int 3), (4, .int x4), (6, .int x6), (7, .int x7)]) hx hb dX3_expandThenSum_148 hl (k := 5) rfl (by rw [ex5b]; rfl) (by decide) rfl (fun ls hl => ?_)
              refine lv_goto (tgt := 69) hx hb dX3_expandThenSum_151 (by decide) ?_
              exact ih (k + 1) x5b u _ _ _ (by omega) (by omega) (by rw [ex5b]; exact ad1 h3) (fun q hq => by rw [g4 q hq, if_pos (by omega)]) hP hD hS (lv_sub hl [1, 2, 3, 4, 5, 0] rfl)
            · have ha : a < 4 := ge_f c90 g3 (show (4 : Int32) = nI 4 from rfl) (by omega) (by omega)
              have m0 : x6 + x7 = nI (12 * i + 4 * (k + 1) + a) := adN hx6 g3
              refine lv_aload_n hx hb dX3_expandThenSum_93 rfl (lv_at hl 1 rfl) ?_
              refine lv_iload hx hb dX3_expandThenSum_94 (lv_at hl 6 rfl) ?_
              refine lv_iload hx hb dX3_expandThenSum_96 (lv_at hl 7 rfl) ?_
              refine lv_iadd hx hb dX3_expandThenSum_98 ?_
              refine va_iald hx hb hK hP 1 2 rfl rfl (vin m0 (by omega) (by decide)) dX3_expandThenSum_99 ?_
              refine lv_topi (fun x8 ex8 => ?_)
              refine lv_istore (lv' := [(8, .int x8), (0, .ref b0), (1, .ref b1), (2, .int xo), (3, .int 3), (4, .int x4), (5, .int x5), (6, .int x6), (7, .int x7)]) hx hb dX3_expandThenSum_100 hl (by decide) rfl (fun ls hl => ?_)
              refine lv_iload hx hb dX3_expandThenSum_102 (lv_at hl 8 rfl) ?_
              refine lv_bipush (v := 32) hx hb dX3_expandThenSum_104 (by decide) ?_
              refine lv_imul hx hb dX3_expandThenSum_106 ?_
              refine lv_topi (fun x9 ex9 => ?_)
              refine lv_istore (lv' := [(9, .int x9), (8, .int x8), (0, .ref b0), (1, .ref b1), (2, .int xo), (3, .int 3), (4, .int x4), (5, .int x5), (6, .int x6), (7, .int x7)]) hx hb dX3_expandThenSum_107 hl (by decide) rfl (fun ls hl => ?_)
              refine lv_iconst (v := 0) hx hb dX3_expandThenSum_109 (by decide) ?_
              refine lv_istore (lv' := [(10, .int 0), (9, .int x9), (8, .int x8), (0, .ref b0), (1, .ref b1), (2, .int xo), (3, .int 3), (4, .int x4), (5, .int x5), (6, .int x6), (7, .int x7)]) hx hb dX3_expandThenSum_110 hl (by decide) rfl (fun ls hl => ?_)
              rw [cln m0 (by omega)] at ex8
              have hx9 : x9 = nI (32 * a) := by rw [ex9, muN g3 (show (32 : Int32) = nI 32 from rfl)]; exact nIe (by omega)
              have bits : ∀ (n : Nat) (b : Nat) (x10 : Int32) (u : Nat → Int32) (H : Heap) (locs : List Loc) (ls : Array Slot), b ≤ 32 → 33 ≤ b + n → x10 = nI b → (∀ q, q < 128 → u q = if q < 32 * a + b then exc cw (12 * i) (k + 1) q else exc cw (12 * i) k q) → va_P D vwCl [(b0, .inl (dT 2, 128, .inl u)), (b1, .inl (dT 2, 48, .inl cw))] H → va_D A [(b0, .inl (dT 2, 128, .inl u)), (b1, .inl (dT 2, 48, .inl cw))] → va_S A s.heap H locs → lv_has ls 11 [(0, .ref b0), (1, .ref b1), (2, .int xo), (3, .int 3), (4, .int x4), (5, .int x5), (6, .int x6), (7, .int x7), (8, .int x8), (9, .int x9), (10, .int x10)] → W p l e rm_X3_expand s m args below meth c H locs 0 0 Q (F0 m 112 ls []) := by
                intro n
                induction n with
                | zero =>
                  intro b x10 u H locs ls f1 f2 f3 f4
                  exact absurd f2 (by omega)
                | succ n kh =>
                  intro b x10 u H locs ls f1 f2 f3 f4 hP hD hS hl
                  refine lv_iload hx hb dX3_expandThenSum_112 (lv_at hl 10 rfl) ?_
                  refine lv_bipush (v := 32) hx hb dX3_expandThenSum_114 (by decide) ?_
                  refine lv_icmp_ge (tgt := 142) hx hb dX3_expandThenSum_116 (by decide) (fun c116 => ?_) (fun c116 => ?_)
                  · have hb9 : b = 32 := by have := ge_t c116 f3 (show (32 : Int32) = nI 32 from rfl) (by omega) (by omega); omega
                    subst hb9
                    obtain ⟨x7b, ex7b⟩ : ∃ y : Int32, y = x7 + 1 := ⟨_, rfl⟩
                    refine lv_iinc (v := x7b) (lv' := [(7, .int x7b), (0, .ref b0), (1, .ref b1), (2, .int xo), (3, .int 3), (4, .int x4), (5, .int x5), (6, .int x6), (8, .int x8), (9, .int x9), (10, .int x10)]) hx hb dX3_expandThenSum_142 hl (k := 7) rfl (by rw [ex7b]; rfl) (by decide) rfl (fun ls hl => ?_)
                    refine lv_goto (tgt := 87) hx hb dX3_expandThenSum_145 (by decide) ?_
                    exact jh (a + 1) x7b u _ _ _ (by omega) (by omega) (by rw [ex7b]; exact ad1 g3) (fun q hq => f4 q hq) hP hD hS (lv_sub hl [1, 2, 3, 4, 5, 6, 7, 0] rfl)
                  · have hb9 : b < 32 := ge_f c116 f3 (show (32 : Int32) = nI 32 from rfl) (by omega) (by omega)
                    refine lv_aload_n hx hb dX3_expandThenSum_119 rfl (lv_at hl 0 rfl) ?_
                    refine lv_iload hx hb dX3_expandThenSum_120 (lv_at hl 9 rfl) ?_
                    refine lv_iload hx hb dX3_expandThenSum_122 (lv_at hl 10 rfl) ?_
                    refine lv_iadd hx hb dX3_expandThenSum_124 ?_
                    refine lv_topi (fun ix eix => ?_)
                    have hix : ix = nI (32 * a + b) := by rw [eix]; exact adN hx9 f3
                    refine lv_dup2_11 hx hb dX3_expandThenSum_125 rfl rfl ?_
                    refine va_iald hx hb hK hP 0 2 rfl rfl (vin hix (by omega) (by decide)) dX3_expandThenSum_126 ?_
                    refine lv_iload hx hb dX3_expandThenSum_127 (lv_at hl 8 rfl) ?_
                    refine lv_iload hx hb dX3_expandThenSum_129 (lv_at hl 10 rfl) ?_
                    refine lv_ishr hx hb dX3_expandThenSum_131 ?_
                    refine lv_iconst (v := 1) hx hb dX3_expandThenSum_132 (by decide) ?_
                    refine lv_iand hx hb dX3_expandThenSum_133 ?_
                    refine lv_iadd hx hb dX3_expandThenSum_134 ?_
                    refine va_iast hx hb hK hP hD hS 0 2 rfl rfl (vin hix (by omega) (by decide)) dX3_expandThenSum_135 (fun H locs hP hD hS => ?_)
                    obtain ⟨u1, eu1⟩ : ∃ g : Nat → Int32, g = upd u (ix : Int32).toNatClampNeg ((u ix.toNatClampNeg) + ((x8 >>> (x10 &&& 31)) &&& 1)) := ⟨_, rfl⟩
                    have hP : va_P D vwCl [(b0, .inl (dT 2, 128, .inl u1)), (b1, .inl (dT 2, 48, .inl cw))] H := by rw [eu1]; exact hP
                    have hD : va_D A [(b0, .inl (dT 2, 128, .inl u1)), (b1, .inl (dT 2, 48, .inl cw))] := by rw [eu1]; exact hD
                    obtain ⟨x10b, ex10b⟩ : ∃ y : Int32, y = x10 + 1 := ⟨_, rfl⟩
                    refine lv_iinc (v := x10b) (lv' := [(10, .int x10b), (0, .ref b0), (1, .ref b1), (2, .int xo), (3, .int 3), (4, .int x4), (5, .int x5), (6, .int x6), (7, .int x7), (8, .int x8), (9, .int x9)]) hx hb dX3_expandThenSum_136 hl (k := 10) rfl (by rw [ex10b]; rfl) (by decide) rfl (fun ls hl => ?_)
                    refine lv_goto (tgt := 112) hx hb dX3_expandThenSum_139 (by decide) ?_
                    rw [cln hix (by omega), ex8, f3] at eu1
                    have hN : ∀ q, q < 128 → u1 q = if q < 32 * a + (b + 1) then exc cw (12 * i) (k + 1) q else exc cw (12 * i) k q := by
                      intro q hq
                      by_cases q1 : q = 32 * a + b
                      · rw [upd_at eu1 q1, f4 _ (by omega), if_neg (by omega), if_pos (by omega), q1]
                        show _ = exc cw (12 * i) k _ + exb cw (12 * i + 4 * (k + 1)) _
                        unfold exb
                        rw [show (32 * a + b) / 32 = a by omega, show (32 * a + b) % 32 = b by omega]
                      · rw [upd_ne eu1 q1, f4 q hq]
                        by_cases q2 : q < 32 * a + b
                        · rw [if_pos q2, if_pos (by omega)]
                        · rw [if_neg q2, if_neg (by omega)]
                    exact kh (b + 1) x10b u1 _ _ _ (by omega) (by omega) (by rw [ex10b]; exact ad1 f3) hN hP hD hS (lv_sub hl [1, 2, 3, 4, 5, 6, 7, 8, 9, 10, 0] rfl)
              exact bits 33 0 0 u _ _ _ (by omega) (by omega) rfl (fun q hq => g4 q hq) hP hD hS (lv_sub hl [3, 4, 5, 6, 7, 8, 9, 10, 2, 1, 0] rfl)
        exact words 5 0 0 u _ _ _ (by omega) (by omega) rfl (fun q hq => by rw [if_neg (by omega)]; exact h4 q hq) hP hD hS (lv_sub hl [2, 3, 4, 5, 6, 7, 1, 0] rfl)
  refine lv_iconst (v := 0) hx hb dX3_expandThenSum_5 (by decide) ?_
  refine lv_istore (lv' := [(5, .int 0), (4, .int x4), (0, .ref b0), (1, .ref b1), (2, .int xo), (3, .int 3)]) hx hb dX3_expandThenSum_6 hl (by decide) rfl (fun ls hl => ?_)
  have firsts : ∀ (n : Nat) (a : Nat) (x5 : Int32) (u : Nat → Int32) (H : Heap) (locs : List Loc) (ls : Array Slot), a ≤ 4 → 5 ≤ a + n → x5 = nI a → (∀ q, q < 32 * a → u q = exc cw (12 * i) 0 q) → va_P D vwCl [(b0, .inl (dT 2, 128, .inl u)), (b1, .inl (dT 2, 48, .inl cw))] H → va_D A [(b0, .inl (dT 2, 128, .inl u)), (b1, .inl (dT 2, 48, .inl cw))] → va_S A s.heap H locs → lv_has ls 11 [(0, .ref b0), (1, .ref b1), (2, .int xo), (3, .int 3), (4, .int x4), (5, .int x5)] → W p l e rm_X3_expand s m args below meth c H locs 0 0 Q (F0 m 8 ls []) := by
    intro n
    induction n with
    | zero =>
      intro a x5 u H locs ls g1 g2 g3 g4
      exact absurd g2 (by omega)
    | succ n jh =>
      intro a x5 u H locs ls g1 g2 g3 g4 hP hD hS hl
      refine lv_iload hx hb dX3_expandThenSum_8 (lv_at hl 5 rfl) ?_
      refine lv_iconst (v := 4) hx hb dX3_expandThenSum_10 (by decide) ?_
      refine lv_icmp_ge (tgt := 66) hx hb dX3_expandThenSum_11 (by decide) (fun c11 => ?_) (fun c11 => ?_)
      · have ha : a = 4 := by have := ge_t c11 g3 (show (4 : Int32) = nI 4 from rfl) (by omega) (by omega); omega
        subst ha
        refine lv_iconst (v := 1) hx hb dX3_expandThenSum_66 (by decide) ?_
        refine lv_istore (lv' := [(5, .int 1), (0, .ref b0), (1, .ref b1), (2, .int xo), (3, .int 3), (4, .int x4)]) hx hb dX3_expandThenSum_67 hl (by decide) rfl (fun ls hl => ?_)
        exact second 3 0 1 u _ _ _ (by omega) (by omega) rfl (fun q hq => g4 q hq) hP hD hS (lv_sub hl [1, 2, 3, 4, 5, 0] rfl)
      · have ha : a < 4 := ge_f c11 g3 (show (4 : Int32) = nI 4 from rfl) (by omega) (by omega)
        have m0 : x4 + x5 = nI (12 * i + a) := adN hx4 g3
        refine lv_aload_n hx hb dX3_expandThenSum_14 rfl (lv_at hl 1 rfl) ?_
        refine lv_iload hx hb dX3_expandThenSum_15 (lv_at hl 4 rfl) ?_
        refine lv_iload hx hb dX3_expandThenSum_17 (lv_at hl 5 rfl) ?_
        refine lv_iadd hx hb dX3_expandThenSum_19 ?_
        refine va_iald hx hb hK hP 1 2 rfl rfl (vin m0 (by omega) (by decide)) dX3_expandThenSum_20 ?_
        refine lv_topi (fun x6 ex6 => ?_)
        refine lv_istore (lv' := [(6, .int x6), (0, .ref b0), (1, .ref b1), (2, .int xo), (3, .int 3), (4, .int x4), (5, .int x5)]) hx hb dX3_expandThenSum_21 hl (by decide) rfl (fun ls hl => ?_)
        refine lv_iload hx hb dX3_expandThenSum_23 (lv_at hl 6 rfl) ?_
        refine lv_bipush (v := 32) hx hb dX3_expandThenSum_25 (by decide) ?_
        refine lv_imul hx hb dX3_expandThenSum_27 ?_
        refine lv_topi (fun x7 ex7 => ?_)
        refine lv_istore (lv' := [(7, .int x7), (6, .int x6), (0, .ref b0), (1, .ref b1), (2, .int xo), (3, .int 3), (4, .int x4), (5, .int x5)]) hx hb dX3_expandThenSum_28 hl (by decide) rfl (fun ls hl => ?_)
        refine lv_iconst (v := 0) hx hb dX3_expandThenSum_30 (by decide) ?_
        refine lv_istore (lv' := [(8, .int 0), (7, .int x7), (6, .int x6), (0, .ref b0), (1, .ref b1), (2, .int xo), (3, .int 3), (4, .int x4), (5, .int x5)]) hx hb dX3_expandThenSum_31 hl (by decide) rfl (fun ls hl => ?_)
        rw [cln m0 (by omega)] at ex6
        have hx7 : x7 = nI (32 * a) := by rw [ex7, muN g3 (show (32 : Int32) = nI 32 from rfl)]; exact nIe (by omega)
        have bits : ∀ (n : Nat) (b : Nat) (x8 : Int32) (u : Nat → Int32) (H : Heap) (locs : List Loc) (ls : Array Slot), b ≤ 32 → 33 ≤ b + n → x8 = nI b → (∀ q, q < 32 * a + b → u q = exc cw (12 * i) 0 q) → va_P D vwCl [(b0, .inl (dT 2, 128, .inl u)), (b1, .inl (dT 2, 48, .inl cw))] H → va_D A [(b0, .inl (dT 2, 128, .inl u)), (b1, .inl (dT 2, 48, .inl cw))] → va_S A s.heap H locs → lv_has ls 11 [(0, .ref b0), (1, .ref b1), (2, .int xo), (3, .int 3), (4, .int x4), (5, .int x5), (6, .int x6), (7, .int x7), (8, .int x8)] → W p l e rm_X3_expand s m args below meth c H locs 0 0 Q (F0 m 33 ls []) := by
          intro n
          induction n with
          | zero =>
            intro b x8 u H locs ls f1 f2 f3 f4
            exact absurd f2 (by omega)
          | succ n kh =>
            intro b x8 u H locs ls f1 f2 f3 f4 hP hD hS hl
            refine lv_iload hx hb dX3_expandThenSum_33 (lv_at hl 8 rfl) ?_
            refine lv_bipush (v := 32) hx hb dX3_expandThenSum_35 (by decide) ?_
            refine lv_icmp_ge (tgt := 60) hx hb dX3_expandThenSum_37 (by decide) (fun c37 => ?_) (fun c37 => ?_)
            · have hb9 : b = 32 := by have := ge_t c37 f3 (show (32 : Int32) = nI 32 from rfl) (by omega) (by omega); omega
              subst hb9
              obtain ⟨x5b, ex5b⟩ : ∃ y : Int32, y = x5 + 1 := ⟨_, rfl⟩
              refine lv_iinc (v := x5b) (lv' := [(5, .int x5b), (0, .ref b0), (1, .ref b1), (2, .int xo), (3, .int 3), (4, .int x4), (6, .int x6), (7, .int x7), (8, .int x8)]) hx hb dX3_expandThenSum_60 hl (k := 5) rfl (by rw [ex5b]; rfl) (by decide) rfl (fun ls hl => ?_)
              refine lv_goto (tgt := 8) hx hb dX3_expandThenSum_63 (by decide) ?_
              exact jh (a + 1) x5b u _ _ _ (by omega) (by omega) (by rw [ex5b]; exact ad1 g3) (fun q hq => f4 q (by omega)) hP hD hS (lv_sub hl [1, 2, 3, 4, 5, 0] rfl)
            · have hb9 : b < 32 := ge_f c37 f3 (show (32 : Int32) = nI 32 from rfl) (by omega) (by omega)
              refine lv_aload_n hx hb dX3_expandThenSum_40 rfl (lv_at hl 0 rfl) ?_
              refine lv_iload hx hb dX3_expandThenSum_41 (lv_at hl 7 rfl) ?_
              refine lv_iload hx hb dX3_expandThenSum_43 (lv_at hl 8 rfl) ?_
              refine lv_iadd hx hb dX3_expandThenSum_45 ?_
              refine lv_topi (fun ix eix => ?_)
              have hix : ix = nI (32 * a + b) := by rw [eix]; exact adN hx7 f3
              refine lv_iload hx hb dX3_expandThenSum_46 (lv_at hl 6 rfl) ?_
              refine lv_iload hx hb dX3_expandThenSum_48 (lv_at hl 8 rfl) ?_
              refine lv_ishr hx hb dX3_expandThenSum_50 ?_
              refine lv_iconst (v := 1) hx hb dX3_expandThenSum_51 (by decide) ?_
              refine lv_iand hx hb dX3_expandThenSum_52 ?_
              refine va_iast hx hb hK hP hD hS 0 2 rfl rfl (vin hix (by omega) (by decide)) dX3_expandThenSum_53 (fun H locs hP hD hS => ?_)
              obtain ⟨u1, eu1⟩ : ∃ g : Nat → Int32, g = upd u (ix : Int32).toNatClampNeg ((x6 >>> (x8 &&& 31)) &&& 1) := ⟨_, rfl⟩
              have hP : va_P D vwCl [(b0, .inl (dT 2, 128, .inl u1)), (b1, .inl (dT 2, 48, .inl cw))] H := by rw [eu1]; exact hP
              have hD : va_D A [(b0, .inl (dT 2, 128, .inl u1)), (b1, .inl (dT 2, 48, .inl cw))] := by rw [eu1]; exact hD
              obtain ⟨x8b, ex8b⟩ : ∃ y : Int32, y = x8 + 1 := ⟨_, rfl⟩
              refine lv_iinc (v := x8b) (lv' := [(8, .int x8b), (0, .ref b0), (1, .ref b1), (2, .int xo), (3, .int 3), (4, .int x4), (5, .int x5), (6, .int x6), (7, .int x7)]) hx hb dX3_expandThenSum_54 hl (k := 8) rfl (by rw [ex8b]; rfl) (by decide) rfl (fun ls hl => ?_)
              refine lv_goto (tgt := 33) hx hb dX3_expandThenSum_57 (by decide) ?_
              rw [cln hix (by omega), ex6, f3] at eu1
              have hN : ∀ q, q < 32 * a + (b + 1) → u1 q = exc cw (12 * i) 0 q := by
                intro q hq
                by_cases q1 : q = 32 * a + b
                · rw [upd_at eu1 q1, q1]
                  show _ = exb cw (12 * i) _
                  unfold exb
                  rw [show (32 * a + b) / 32 = a by omega, show (32 * a + b) % 32 = b by omega]
                · rw [upd_ne eu1 q1]
                  exact f4 q (by omega)
              exact kh (b + 1) x8b u1 _ _ _ (by omega) (by omega) (by rw [ex8b]; exact ad1 f3) hN hP hD hS (lv_sub hl [1, 2, 3, 4, 5, 6, 7, 8, 0] rfl)
        exact bits 33 0 0 u _ _ _ (by omega) (by omega) rfl (fun q hq => g4 q (by omega)) hP hD hS (lv_sub hl [3, 4, 5, 6, 7, 8, 2, 1, 0] rfl)
  exact firsts 5 0 0 f _ _ _ (by omega) (by omega) rfl (fun q hq => absurd hq (by omega)) hP hD hS (lv_sub hl [2, 3, 4, 5, 1, 0] rfl)
abbrev rm_X3_had : Room := { frames := 0, cells := 0, slots := 0, locals := 0 }
set_option maxHeartbeats 4000000 in
set_option maxRecDepth 100000 in
/-- the transform -/
theorem met_had (l : Launch) (D : va_G) (dT : Nat → ClassId) (b0 b1 : Nat) (f g : Nat → Int32) : ∀ sz : Nat, Met l yX3_hadamardTransform (ws_ yX3_hadamardTransform cX3_hadamardTransform 6 none) rm_X3_had (va_Pc [.ref b0, .ref b1] (PCx D dT sz [(b0, .inl (dT 2, 128, .inl f)), (b1, .inl (dT 2, 128, .inl g))])) (va_Qv (fun (u : (Nat → Int32) × (Nat → Int32)) => ∀ q, q < 128 → u.2 q = hpw f 7 q) (BCx D (fun u : (Nat → Int32) × (Nat → Int32) => [(b0, .inl (dT 2, 128, .inl u.1)), (b1, .inl (dT 2, 128, .inl u.2))]) (va_A [(b0, .inl (dT 2, 128, .inl f)), (b1, .inl (dT 2, 128, .inl g))] sz)) (va_A [(b0, .inl (dT 2, 128, .inl f)), (b1, .inl (dT 2, 128, .inl g))] sz)) 0 0 (va_A [(b0, .inl (dT 2, 128, .inl f)), (b1, .inl (dT 2, 128, .inl g))] sz) := by
  refine mt_of (Qc := fun A => (va_Qv (fun (u : (Nat → Int32) × (Nat → Int32)) => ∀ q, q < 128 → u.2 q = hpw f 7 q) (BCx D (fun u : (Nat → Int32) × (Nat → Int32) => [(b0, .inl (dT 2, 128, .inl u.1)), (b1, .inl (dT 2, 128, .inl u.2))]) A) A)) (mc := 0) (ms := 0) (by decide) (Nat.le_of_ble_eq_true rfl) ?_
  intro p e s m args below meth c hx hb hr hlocks hml hts hown hnm A hA H locs hP hD hK hS ls hl Q hQ
  have hown : s.vm.findClass RX3 = some m.cls := hown
  have hl : lv_has ls 6 [(0, .ref b0), (1, .ref b1)] := hl
  refine lv_iconst (v := 0) hx hb dX3_hadamardTransform_0 (by decide) ?_
  refine lv_istore_n (lv' := [(2, .int 0), (0, .ref b0), (1, .ref b1)]) hx hb dX3_hadamardTransform_1 rfl hl (by decide) rfl (fun ls hl => ?_)
  have outer : ∀ (n : Nat) (k : Nat) (x2 : Int32) (a0 a1 : Nat) (fs gs : Nat → Int32) (H : Heap) (locs : List Loc) (ls : Array Slot), k ≤ 7 → 8 ≤ k + n → x2 = nI k → (∀ q, q < 128 → fs q = hpw f k q) → ((k % 2 = 0 → a0 = b0 ∧ a1 = b1) ∧ (k % 2 = 1 → a0 = b1 ∧ a1 = b0)) → va_P D vwCl [(a0, .inl (dT 2, 128, .inl fs)), (a1, .inl (dT 2, 128, .inl gs))] H → va_D A [(a0, .inl (dT 2, 128, .inl fs)), (a1, .inl (dT 2, 128, .inl gs))] → va_S A s.heap H locs → lv_has ls 6 [(0, .ref a0), (1, .ref a1), (2, .int x2)] → W p l e rm_X3_had s m args below meth c H locs 0 0 Q (F0 m 2 ls []) := by
    intro n
    induction n with
    | zero =>
      intro k x2 a0 a1 fs gs H locs ls h1 h2 h3 h4 h5
      exact absurd h2 (by omega)
    | succ n ih =>
      intro k x2 a0 a1 fs gs H locs ls h1 h2 h3 h4 h5 hP hD hS hl
      refine lv_iload_n hx hb dX3_hadamardTransform_2 rfl (lv_at hl 2 rfl) ?_
      refine lv_bipush (v := 7) hx hb dX3_hadamardTransform_3 (by decide) ?_
      refine lv_icmp_ge (tgt := 69) hx hb dX3_hadamardTransform_5 (by decide) (fun c5 => ?_) (fun c5 => ?_)
      · have hk : k = 7 := by have := ge_t c5 h3 (show (7 : Int32) = nI 7 from rfl) (by omega) (by omega); omega
        subst hk
        obtain ⟨ea, eb⟩ := h5.2 (by decide)
        rw [ea, eb] at hP hD
        rw [hQ]
        exact rt_v hx hb hr hlocks (gs, fs) h4 (hP.sub [1, 0] rfl) (hD.sub [1, 0] (by decide) rfl) hS (Nat.le_refl _) (Nat.le_refl _) dX3_hadamardTransform_69
      · have hk : k < 7 := ge_f c5 h3 (show (7 : Int32) = nI 7 from rfl) (by omega) (by omega)
        refine lv_iconst (v := 0) hx hb dX3_hadamardTransform_8 (by decide) ?_
        refine lv_istore_n (lv' := [(3, .int 0), (0, .ref a0), (1, .ref a1), (2, .int x2)]) hx hb dX3_hadamardTransform_9 rfl hl (by decide) rfl (fun ls hl => ?_)
        have inner : ∀ (n : Nat) (j : Nat) (x3 : Int32) (gs : Nat → Int32) (H : Heap) (locs : List Loc) (ls : Array Slot), j ≤ 64 → 65 ≤ j + n → x3 = nI j → (∀ q, q < j → gs q = hst fs q ∧ gs (q + 64) = hst fs (q + 64)) → va_P D vwCl [(a0, .inl (dT 2, 128, .inl fs)), (a1, .inl (dT 2, 128, .inl gs))] H → va_D A [(a0, .inl (dT 2, 128, .inl fs)), (a1, .inl (dT 2, 128, .inl gs))] → va_S A s.heap H locs → lv_has ls 6 [(0, .ref a0), (1, .ref a1), (2, .int x2), (3, .int x3)] → W p l e rm_X3_had s m args below meth c H locs 0 0 Q (F0 m 10 ls []) := by
          intro n
          induction n with
          | zero =>
            intro j x3 gs H locs ls g1 g2 g3 g4
            exact absurd g2 (by omega)
          | succ n jh =>
            intro j x3 gs H locs ls g1 g2 g3 g4 hP hD hS hl
            refine lv_iload_n hx hb dX3_hadamardTransform_10 rfl (lv_at hl 3 rfl) ?_
            refine lv_bipush (v := 64) hx hb dX3_hadamardTransform_11 (by decide) ?_
            refine lv_icmp_ge (tgt := 57) hx hb dX3_hadamardTransform_13 (by decide) (fun c13 => ?_) (fun c13 => ?_)
            · have hj : j = 64 := by have := ge_t c13 g3 (show (64 : Int32) = nI 64 from rfl) (by omega) (by omega); omega
              subst hj
              refine lv_aload_n hx hb dX3_hadamardTransform_57 rfl (lv_at hl 0 rfl) ?_
              refine lv_astore_n (lv' := [(3, .ref a0), (0, .ref a0), (1, .ref a1), (2, .int x2)]) hx hb dX3_hadamardTransform_58 rfl hl (by decide) rfl (fun ls hl => ?_)
              refine lv_aload_n hx hb dX3_hadamardTransform_59 rfl (lv_at hl 2 rfl) ?_
              refine lv_astore_n (lv' := [(0, .ref a1), (3, .ref a0), (1, .ref a1), (2, .int x2)]) hx hb dX3_hadamardTransform_60 rfl hl (by decide) rfl (fun ls hl => ?_)
              refine lv_aload_n hx hb dX3_hadamardTransform_61 rfl (lv_at hl 1 rfl) ?_
              refine lv_astore_n (lv' := [(1, .ref a0), (0, .ref a1), (3, .ref a0), (2, .int x2)]) hx hb dX3_hadamardTransform_62 rfl hl (by decide) rfl (fun ls hl => ?_)
              obtain ⟨x2b, ex2b⟩ : ∃ y : Int32, y = x2 + 1 := ⟨_, rfl⟩
              refine lv_iinc (v := x2b) (lv' := [(2, .int x2b), (1, .ref a0), (0, .ref a1), (3, .ref a0)]) hx hb dX3_hadamardTransform_63 hl (k := 3) rfl (by rw [ex2b]; rfl) (by decide) rfl (fun ls hl => ?_)
              refine lv_goto (tgt := 2) hx hb dX3_hadamardTransform_66 (by decide) ?_
              have hN : ∀ q, q < 128 → gs q = hpw f (k + 1) q := by
                intro q hq
                rw [show hpw f (k + 1) q = hst (hpw f k) q from rfl, ← hst_congr h4 q hq]
                by_cases q1 : q < 64
                · exact (g4 q q1).1
                · have q2 := (g4 (q - 64) (by omega)).2
                  rwa [show q - 64 + 64 = q by omega] at q2
              exact ih (k + 1) x2b a1 a0 gs fs _ _ _ (by omega) (by omega) (by rw [ex2b]; exact ad1 h3) hN ⟨fun q => (h5.2 (by omega)).symm, fun q => (h5.1 (by omega)).symm⟩ (hP.sub [1, 0] rfl) (hD.sub [1, 0] (by decide) rfl) hS (lv_sub hl [2, 1, 0] rfl)
            · have hj : j < 64 := ge_f c13 g3 (show (64 : Int32) = nI 64 from rfl) (by omega) (by omega)
              have m0 : 2 * x3 = nI (2 * j) := muN (show (2 : Int32) = nI 2 from rfl) g3
              have m1 : 2 * x3 + 1 = nI (2 * j + 1) := ad1 m0
              have m2 : x3 + 64 = nI (j + 64) := adN g3 (show (64 : Int32) = nI 64 from rfl)
              refine lv_aload_n hx hb dX3_hadamardTransform_16 rfl (lv_at hl 0 rfl) ?_
              refine lv_iconst (v := 2) hx hb dX3_hadamardTransform_17 (by decide) ?_
              refine lv_iload_n hx hb dX3_hadamardTransform_18 rfl (lv_at hl 3 rfl) ?_
              refine lv_imul hx hb dX3_hadamardTransform_19 ?_
              refine va_iald hx hb hK hP 0 2 rfl rfl (vin m0 (by omega) (by decide)) dX3_hadamardTransform_20 ?_
              refine lv_topi (fun x4 ex4 => ?_)
              refine lv_istore (lv' := [(4, .int x4), (0, .ref a0), (1, .ref a1), (2, .int x2), (3, .int x3)]) hx hb dX3_hadamardTransform_21 hl (by decide) rfl (fun ls hl => ?_)
              refine lv_aload_n hx hb dX3_hadamardTransform_23 rfl (lv_at hl 1 rfl) ?_
              refine lv_iconst (v := 2) hx hb dX3_hadamardTransform_24 (by decide) ?_
              refine lv_iload_n hx hb dX3_hadamardTransform_25 rfl (lv_at hl 4 rfl) ?_
              refine lv_imul hx hb dX3_hadamardTransform_26 ?_
              refine lv_iconst (v := 1) hx hb dX3_hadamardTransform_27 (by decide) ?_
              refine lv_iadd hx hb dX3_hadamardTransform_28 ?_
              refine va_iald hx hb hK hP 0 2 rfl rfl (vin m1 (by omega) (by decide)) dX3_hadamardTransform_29 ?_
              refine lv_topi (fun x5 ex5 => ?_)
              refine lv_istore (lv' := [(5, .int x5), (4, .int x4), (0, .ref a0), (1, .ref a1), (2, .int x2), (3, .int x3)]) hx hb dX3_hadamardTransform_30 hl (by decide) rfl (fun ls hl => ?_)
              refine lv_aload_n hx hb dX3_hadamardTransform_32 rfl (lv_at hl 3 rfl) ?_
              refine lv_iload_n hx hb dX3_hadamardTransform_33 rfl (lv_at hl 5 rfl) ?_
              refine lv_iload hx hb dX3_hadamardTransform_34 (lv_at hl 1 rfl) ?_
              refine lv_iload hx hb dX3_hadamardTransform_36 (lv_at hl 0 rfl) ?_
              refine lv_iadd hx hb dX3_hadamardTransform_38 ?_
              refine va_iast hx hb hK hP hD hS 1 2 rfl rfl (vin g3 (by omega) (by decide)) dX3_hadamardTransform_39 (fun H locs hP hD hS => ?_)
              obtain ⟨gs1, egs1⟩ : ∃ g : Nat → Int32, g = upd gs (x3 : Int32).toNatClampNeg (x4 + x5) := ⟨_, rfl⟩
              have hP : va_P D vwCl [(a0, .inl (dT 2, 128, .inl fs)), (a1, .inl (dT 2, 128, .inl gs1))] H := by rw [egs1]; exact hP
              have hD : va_D A [(a0, .inl (dT 2, 128, .inl fs)), (a1, .inl (dT 2, 128, .inl gs1))] := by rw [egs1]; exact hD
              refine lv_aload_n hx hb dX3_hadamardTransform_40 rfl (lv_at hl 3 rfl) ?_
              refine lv_iload_n hx hb dX3_hadamardTransform_41 rfl (lv_at hl 5 rfl) ?_
              refine lv_bipush (v := 64) hx hb dX3_hadamardTransform_42 (by decide) ?_
              refine lv_iadd hx hb dX3_hadamardTransform_44 ?_
              refine lv_iload hx hb dX3_hadamardTransform_45 (lv_at hl 1 rfl) ?_
              refine lv_iload hx hb dX3_hadamardTransform_47 (lv_at hl 0 rfl) ?_
              refine lv_isub hx hb dX3_hadamardTransform_49 ?_
              refine va_iast hx hb hK hP hD hS 1 2 rfl rfl (vin m2 (by omega) (by decide)) dX3_hadamardTransform_50 (fun H locs hP hD hS => ?_)
              obtain ⟨gs2, egs2⟩ : ∃ g : Nat → Int32, g = upd gs1 ((x3 + 64) : Int32).toNatClampNeg (x4 - x5) := ⟨_, rfl⟩
              have hP : va_P D vwCl [(a0, .inl (dT 2, 128, .inl fs)), (a1, .inl (dT 2, 128, .inl gs2))] H := by rw [egs2]; exact hP
              have hD : va_D A [(a0, .inl (dT 2, 128, .inl fs)), (a1, .inl (dT 2, 128, .inl gs2))] := by rw [egs2]; exact hD
              obtain ⟨x3b, ex3b⟩ : ∃ y : Int32, y = x3 + 1 := ⟨_, rfl⟩
              refine lv_iinc (v := x3b) (lv' := [(3, .int x3b), (5, .int x5), (4, .int x4), (0, .ref a0), (1, .ref a1), (2, .int x2)]) hx hb dX3_hadamardTransform_51 hl (k := 5) rfl (by rw [ex3b]; rfl) (by decide) rfl (fun ls hl => ?_)
              refine lv_goto (tgt := 10) hx hb dX3_hadamardTransform_54 (by decide) ?_
              rw [cln m0 (by omega)] at ex4
              rw [cln m1 (by omega)] at ex5
              rw [cln g3 (by omega), ex4, ex5] at egs1
              rw [cln m2 (by omega), ex4, ex5] at egs2
              have hN : ∀ q, q < j + 1 → gs2 q = hst fs q ∧ gs2 (q + 64) = hst fs (q + 64) := by
                intro q hq
                by_cases q1 : q = j
                · subst q1
                  refine ⟨?_, ?_⟩
                  · rw [upd_ne egs2 (by omega), upd_at egs1 rfl]
                    unfold hst
                    rw [if_pos (by omega)]
                  · rw [upd_at egs2 rfl]
                    unfold hst
                    rw [if_neg (by omega), show q + 64 - 64 = q by omega]
                · rw [upd_ne egs2 (by omega), upd_ne egs1 (by omega), upd_ne egs2 (by omega), upd_ne egs1 (by omega)]
                  exact g4 q (by omega)
              exact jh (j + 1) x3b gs2 _ _ _ (by omega) (by omega) (by rw [ex3b]; exact ad1 g3) hN hP hD hS (lv_sub hl [3, 4, 5, 0] rfl)
        exact inner 65 0 0 gs _ _ _ (by omega) (by omega) rfl (fun q hq => absurd hq (by omega)) hP hD hS (lv_sub hl [1, 2, 3, 0] rfl)
  exact outer 8 0 0 b0 b1 f g _ _ _ (by omega) (by omega) rfl (fun q hq => rfl) ⟨fun _ => ⟨rfl, rfl⟩, fun h => absurd h (by decide)⟩ hP hD hS (lv_sub hl [1, 2, 0] rfl)
abbrev rm_X3_peaks : Room := { frames := 1, cells := 0, slots := 0, locals := 16 }
set_option maxHeartbeats 4000000 in
set_option maxRecDepth 100000 in
/-- the place of the greatest, and its sign -/
theorem met_peaks (l : Launch) (D : va_G) (dT : Nat → ClassId) (h0 : Nat) (f : Nat → Int32) : ∀ sz : Nat, Met l yX3_findPeaks (ws_ yX3_findPeaks cX3_findPeaks 8 (some .int)) rm_X3_peaks (va_Pc [.ref h0] (PCx D dT sz [(h0, .inl (dT 2, 128, .inl f))])) (va_Qi (fun (r : Int32) (u : Unit) => r = pkR f) (BCx D (fun u : Unit => [(h0, .inl (dT 2, 128, .inl f))]) (va_A [(h0, .inl (dT 2, 128, .inl f))] sz)) (va_A [(h0, .inl (dT 2, 128, .inl f))] sz)) 0 0 (va_A [(h0, .inl (dT 2, 128, .inl f))] sz) := by
  refine mt_of (Qc := fun A => (va_Qi (fun (r : Int32) (u : Unit) => r = pkR f) (BCx D (fun u : Unit => [(h0, .inl (dT 2, 128, .inl f))]) A) A)) (mc := 0) (ms := 0) (by decide) (Nat.le_of_ble_eq_true rfl) ?_
  intro p e s m args below meth c hx hb hr hlocks hml hts hown hnm A hA H locs hP hD hK hS ls hl Q hQ
  have hown : s.vm.findClass RX3 = some m.cls := hown
  have hl : lv_has ls 8 [(0, .ref h0)] := hl
  refine lv_iconst (v := 0) hx hb dX3_findPeaks_0 (by decide) ?_
  refine lv_istore_n (lv' := [(1, .int 0), (0, .ref h0)]) hx hb dX3_findPeaks_1 rfl hl (by decide) rfl (fun ls hl => ?_)
  refine lv_iconst (v := 0) hx hb dX3_findPeaks_2 (by decide) ?_
  refine lv_istore_n (lv' := [(2, .int 0), (1, .int 0), (0, .ref h0)]) hx hb dX3_findPeaks_3 rfl hl (by decide) rfl (fun ls hl => ?_)
  refine lv_iconst (v := 0) hx hb dX3_findPeaks_4 (by decide) ?_
  refine lv_istore_n (lv' := [(3, .int 0), (2, .int 0), (1, .int 0), (0, .ref h0)]) hx hb dX3_findPeaks_5 rfl hl (by decide) rfl (fun ls hl => ?_)
  refine lv_iconst (v := 0) hx hb dX3_findPeaks_6 (by decide) ?_
  refine lv_istore (lv' := [(4, .int 0), (3, .int 0), (2, .int 0), (1, .int 0), (0, .ref h0)]) hx hb dX3_findPeaks_7 hl (by decide) rfl (fun ls hl => ?_)
  have outer : ∀ (n : Nat) (i : Nat) (x1 x2 x3 x4 : Int32) (H : Heap) (locs : List Loc) (ls : Array Slot), i ≤ 128 → 129 ≤ i + n → x4 = nI i → x1 = pkA f i → x2 = pkV f i → x3 = pkP f i → va_P D vwCl [(h0, .inl (dT 2, 128, .inl f))] H → va_D A [(h0, .inl (dT 2, 128, .inl f))] → va_S A s.heap H locs → lv_has ls 8 [(0, .ref h0), (1, .int x1), (2, .int x2), (3, .int x3), (4, .int x4)] → W p l e rm_X3_peaks s m args below meth c H locs 0 0 Q (F0 m 9 ls []) := by
    intro n
    induction n with
    | zero =>
      intro i x1 x2 x3 x4 H locs ls h1 h2 h3 h4 h5 h6
      exact absurd h2 (by omega)
    | succ n ih =>
      intro i x1 x2 x3 x4 H locs ls h1 h2 h3 h4 h5 h6 hP hD hS hl
      refine lv_iload hx hb dX3_findPeaks_9 (lv_at hl 4 rfl) ?_
      refine lv_sipush (v := 128) hx hb dX3_findPeaks_11 (by decide) ?_
      refine lv_icmp_ge (tgt := 90) hx hb dX3_findPeaks_14 (by decide) (fun c14 => ?_) (fun c14 => ?_)
      · have hi : i = 128 := by have := ge_t c14 h3 (show (128 : Int32) = nI 128 from rfl) (by omega) (by omega); omega
        subst hi
        refine lv_iload_n hx hb dX3_findPeaks_90 rfl (lv_at hl 2 rfl) ?_
        have K4 : ∀ v : Int32, v = (if pkV f 128 ≤ 0 then 0 else 1) → W p l e rm_X3_peaks s m args below meth c H locs 0 0 Q (F0 m 99 ls [.int v]) := by
          intro v hv
          refine lv_istore (lv' := [(4, .int v), (0, .ref h0), (1, .int x1), (2, .int x2), (3, .int x3)]) hx hb dX3_findPeaks_99 hl (by decide) rfl (fun ls hl => ?_)
          refine lv_iload_n hx hb dX3_findPeaks_101 rfl (lv_at hl 4 rfl) ?_
          refine lv_sipush (v := 128) hx hb dX3_findPeaks_102 (by decide) ?_
          refine lv_iload hx hb dX3_findPeaks_105 (lv_at hl 0 rfl) ?_
          refine lv_imul hx hb dX3_findPeaks_107 ?_
          refine lv_ior hx hb dX3_findPeaks_108 ?_
          refine lv_topi (fun x3b ex3b => ?_)
          refine lv_istore_n (lv' := [(3, .int x3b), (4, .int v), (0, .ref h0), (1, .int x1), (2, .int x2)]) hx hb dX3_findPeaks_109 rfl hl (by decide) rfl (fun ls hl => ?_)
          refine lv_iload_n hx hb dX3_findPeaks_110 rfl (lv_at hl 0 rfl) ?_
          rw [hQ]
          exact rt_i hx hb hr hlocks () (by rw [ex3b, h6, hv]; rfl) hP hD hS (Nat.le_refl _) (Nat.le_refl _) dX3_findPeaks_111
        refine lv_if_le (tgt := 98) hx hb dX3_findPeaks_91 (by decide) (fun c91 => ?_) (fun c91 => ?_)
        · refine lv_iconst (v := 0) hx hb dX3_findPeaks_98 (by decide) ?_
          exact K4 _ (by rw [if_pos (h5 ▸ c91)])
        · refine lv_iconst (v := 1) hx hb dX3_findPeaks_94 (by decide) ?_
          refine lv_goto (tgt := 99) hx hb dX3_findPeaks_95 (by decide) ?_
          exact K4 _ (by rw [if_neg (h5 ▸ c91)])
      · have hi : i < 128 := ge_f c14 h3 (show (128 : Int32) = nI 128 from rfl) (by omega) (by omega)
        refine lv_aload_n hx hb dX3_findPeaks_17 rfl (lv_at hl 0 rfl) ?_
        refine lv_iload hx hb dX3_findPeaks_18 (lv_at hl 4 rfl) ?_
        refine va_iald hx hb hK hP 0 2 rfl rfl (vin h3 hi (by decide)) dX3_findPeaks_20 ?_
        refine lv_topi (fun x5 ex5 => ?_)
        refine lv_istore (lv' := [(5, .int x5), (0, .ref h0), (1, .int x1), (2, .int x2), (3, .int x3), (4, .int x4)]) hx hb dX3_findPeaks_21 hl (by decide) rfl (fun ls hl => ?_)
        refine lv_iload hx hb dX3_findPeaks_23 (lv_at hl 0 rfl) ?_
        rw [cln h3 (by omega)] at ex5
        have K1 : ∀ v : Int32, v = pkm (f i) → W p l e rm_X3_peaks s m args below meth c H locs 0 0 Q (F0 m 33 ls [.int v]) := by
          intro v hv
          refine lv_istore (lv' := [(6, .int v), (5, .int x5), (0, .ref h0), (1, .int x1), (2, .int x2), (3, .int x3), (4, .int x4)]) hx hb dX3_findPeaks_33 hl (by decide) rfl (fun ls hl => ?_)
          refine lv_iload hx hb dX3_findPeaks_35 (lv_at hl 0 rfl) ?_
          refine lv_iload hx hb dX3_findPeaks_37 (lv_at hl 1 rfl) ?_
          refine lv_iand hx hb dX3_findPeaks_39 ?_
          refine lv_iload hx hb dX3_findPeaks_40 (lv_at hl 0 rfl) ?_
          refine lv_iconst (v := (-1)) hx hb dX3_findPeaks_42 (by decide) ?_
          refine lv_ixor hx hb dX3_findPeaks_43 ?_
          refine lv_iload hx hb dX3_findPeaks_44 (lv_at hl 1 rfl) ?_
          refine lv_ineg hx hb dX3_findPeaks_46 ?_
          refine lv_iand hx hb dX3_findPeaks_47 ?_
          refine lv_ior hx hb dX3_findPeaks_48 ?_
          refine lv_topi (fun x7 ex7 => ?_)
          refine lv_istore (lv' := [(7, .int x7), (6, .int v), (5, .int x5), (0, .ref h0), (1, .int x1), (2, .int x2), (3, .int x3), (4, .int x4)]) hx hb dX3_findPeaks_49 hl (by decide) rfl (fun ls hl => ?_)
          refine lv_iload hx hb dX3_findPeaks_51 (lv_at hl 0 rfl) ?_
          refine lv_iload_n hx hb dX3_findPeaks_53 rfl (lv_at hl 4 rfl) ?_
          have hx7 : x7 = pab (f i) := by rw [ex7, hv, ex5]; rfl
          have K2 : ∀ v2 : Int32, v2 = pkV f (i + 1) → W p l e rm_X3_peaks s m args below meth c H locs 0 0 Q (F0 m 63 ls [.int v2]) := by
            intro v2 hv2
            refine lv_istore_n (lv' := [(2, .int v2), (7, .int x7), (6, .int v), (5, .int x5), (0, .ref h0), (1, .int x1), (3, .int x3), (4, .int x4)]) hx hb dX3_findPeaks_63 rfl hl (by decide) rfl (fun ls hl => ?_)
            refine lv_iload hx hb dX3_findPeaks_64 (lv_at hl 1 rfl) ?_
            refine lv_iload_n hx hb dX3_findPeaks_66 rfl (lv_at hl 5 rfl) ?_
            have K3 : ∀ v3 : Int32, v3 = pkP f (i + 1) → W p l e rm_X3_peaks s m args below meth c H locs 0 0 Q (F0 m 76 ls [.int v3]) := by
              intro v3 hv3
              refine lv_istore_n (lv' := [(3, .int v3), (2, .int v2), (7, .int x7), (6, .int v), (5, .int x5), (0, .ref h0), (1, .int x1), (4, .int x4)]) hx hb dX3_findPeaks_76 rfl hl (by decide) rfl (fun ls hl => ?_)
              refine lv_iload hx hb dX3_findPeaks_77 (lv_at hl 2 rfl) ?_
              refine lv_iload_n hx hb dX3_findPeaks_79 rfl (lv_at hl 6 rfl) ?_
              refine va_mmax hx hb (by rw [hml]; exact hl.1.symm) hown (hts _ q126) (hts _ q127) (hts _ q5) (hts _ q128) (Nat.le_of_ble_eq_true rfl) (Nat.le_of_ble_eq_true rfl) (Nat.le_of_ble_eq_true rfl) (Nat.le_of_ble_eq_true rfl) dX3_findPeaks_80 ?_
              refine lv_topi (fun x1b ex1b => ?_)
              refine lv_istore_n (lv' := [(1, .int x1b), (3, .int v3), (2, .int v2), (7, .int x7), (6, .int v), (5, .int x5), (0, .ref h0), (4, .int x4)]) hx hb dX3_findPeaks_83 rfl hl (by decide) rfl (fun ls hl => ?_)
              obtain ⟨x4b, ex4b⟩ : ∃ y : Int32, y = x4 + 1 := ⟨_, rfl⟩
              refine lv_iinc (v := x4b) (lv' := [(4, .int x4b), (1, .int x1b), (3, .int v3), (2, .int v2), (7, .int x7), (6, .int v), (5, .int x5), (0, .ref h0)]) hx hb dX3_findPeaks_84 hl (k := 7) rfl (by rw [ex4b]; rfl) (by decide) rfl (fun ls hl => ?_)
              refine lv_goto (tgt := 9) hx hb dX3_findPeaks_87 (by decide) ?_
              exact ih (i + 1) x1b v2 v3 x4b _ _ _ (by omega) (by omega) (by rw [ex4b]; exact ad1 h3) (by rw [ex1b, hx7, h4]; rfl) hv2 hv3 hP hD hS (lv_sub hl [7, 1, 3, 2, 0] rfl)
            refine lv_icmp_le (tgt := 75) hx hb dX3_findPeaks_67 (by decide) (fun c67 => ?_) (fun c67 => ?_)
            · refine lv_iload_n hx hb dX3_findPeaks_75 rfl (lv_at hl 6 rfl) ?_
              exact K3 _ (by rw [hx7, h4] at c67; rw [h6]; exact (if_pos c67).symm)
            · refine lv_iload hx hb dX3_findPeaks_70 (lv_at hl 7 rfl) ?_
              refine lv_goto (tgt := 76) hx hb dX3_findPeaks_72 (by decide) ?_
              exact K3 _ (by rw [hx7, h4] at c67; rw [h3]; exact (if_neg c67).symm)
          refine lv_icmp_le (tgt := 62) hx hb dX3_findPeaks_54 (by decide) (fun c54 => ?_) (fun c54 => ?_)
          · refine lv_iload_n hx hb dX3_findPeaks_62 rfl (lv_at hl 5 rfl) ?_
            exact K2 _ (by rw [hx7, h4] at c54; rw [h5]; exact (if_pos c54).symm)
          · refine lv_iload hx hb dX3_findPeaks_57 (lv_at hl 2 rfl) ?_
            refine lv_goto (tgt := 63) hx hb dX3_findPeaks_59 (by decide) ?_
            exact K2 _ (by rw [hx7, h4] at c54; rw [ex5]; exact (if_neg c54).symm)
        refine lv_if_le (tgt := 32) hx hb dX3_findPeaks_25 (by decide) (fun c25 => ?_) (fun c25 => ?_)
        · refine lv_iconst (v := 0) hx hb dX3_findPeaks_32 (by decide) ?_
          exact K1 _ (by rw [ex5] at c25; exact (if_pos c25).symm)
        · refine lv_iconst (v := (-1)) hx hb dX3_findPeaks_28 (by decide) ?_
          refine lv_goto (tgt := 33) hx hb dX3_findPeaks_29 (by decide) ?_
          exact K1 _ (by rw [ex5] at c25; exact (if_neg c25).symm)
  exact outer 129 0 0 0 0 0 _ _ _ (by omega) (by omega) rfl rfl rfl rfl hP hD hS (lv_sub hl [4, 3, 2, 1, 0] rfl)
abbrev rm_X3_decode : Room := { frames := 2, cells := 3, slots := 304, locals := 60 }
set_option maxHeartbeats 4000000 in
set_option maxRecDepth 100000 in
/-- the four letters of a word -/
theorem met_decode (l : Launch) (D : va_G) (dT : Nat → ClassId) (hm hw0 : Nat) (rb : Nat → Int32) (w : Nat → Int64) : ∀ sz : Nat, Met l yX3_decode (ws_ yX3_decode cX3_decode 8 none) rm_X3_decode (va_Pc [.ref hm, .ref hw0, .int 4, .int 3] (PCx D dT sz [(hm, .inl (dT 0, 4, .inl rb)), (hw0, .inl (dT 1, 24, .inr (.inl w)))])) (va_Qv (fun (u : Nat → Int32) => ∀ i, i < 4 → u i = dcl w i) (BCx D (fun u : Nat → Int32 => [(hm, .inl (dT 0, 4, .inl u)), (hw0, .inl (dT 1, 24, .inr (.inl w)))]) (va_A [(hm, .inl (dT 0, 4, .inl rb)), (hw0, .inl (dT 1, 24, .inr (.inl w)))] sz)) (va_A [(hm, .inl (dT 0, 4, .inl rb)), (hw0, .inl (dT 1, 24, .inr (.inl w)))] sz)) 3 304 (va_A [(hm, .inl (dT 0, 4, .inl rb)), (hw0, .inl (dT 1, 24, .inr (.inl w)))] sz) := by
  refine mt_of (Qc := fun A => (va_Qv (fun (u : Nat → Int32) => ∀ i, i < 4 → u i = dcl w i) (BCx D (fun u : Nat → Int32 => [(hm, .inl (dT 0, 4, .inl u)), (hw0, .inl (dT 1, 24, .inr (.inl w)))]) A) A)) (mc := 3) (ms := 304) (by decide) (Nat.le_of_ble_eq_true rfl) ?_
  intro p e s m args below meth c hx hb hr hlocks hml hts hown hnm A hA H locs hP hD hK hS ls hl Q hQ
  have hown : s.vm.findClass RX3 = some m.cls := hown
  have hl : lv_has ls 8 [(0, .ref hm), (1, .ref hw0), (2, .int 4), (3, .int 3)] := hl
  refine lv_aload_n hx hb dX3_decode_0 rfl (lv_at hl 1 rfl) ?_
  refine va_alen (v := 24) hx hb hK hP 1 1 rfl rfl rfl dX3_decode_1 ?_
  refine lv_iconst (v := 2) hx hb dX3_decode_2 (by decide) ?_
  refine lv_imul hx hb dX3_decode_3 ?_
  refine nw_i (N := 48) hx hb hts hK hP hD hS hA (by decide) (by decide) (Nat.le_of_ble_eq_true rfl) (Nat.le_of_ble_eq_true rfl) (Nat.le_of_ble_eq_true rfl) dX3_decode_4 (fun n4 H hP hD hS => ?_)
  have hP : va_P D vwCl [(hm, .inl (dT 0, 4, .inl rb)), (hw0, .inl (dT 1, 24, .inr (.inl w))), (n4, .inl (dT 2, 48, .inl (fun _ => 0)))] H := hP
  have hD : va_D A [(hm, .inl (dT 0, 4, .inl rb)), (hw0, .inl (dT 1, 24, .inr (.inl w))), (n4, .inl (dT 2, 48, .inl (fun _ => 0)))] := hD
  refine lv_astore (lv' := [(4, .ref n4), (0, .ref hm), (1, .ref hw0), (2, .int 4), (3, .int 3)]) hx hb dX3_decode_6 hl (by decide) rfl (fun ls hl => ?_)
  refine lv_aload hx hb dX3_decode_8 (lv_at hl 0 rfl) ?_
  refine lv_aload_n hx hb dX3_decode_10 rfl (lv_at hl 2 rfl) ?_
  refine cl_Sv (As := [.ref n4, .ref hw0]) (rest := []) (wr := [(hm, .inl (dT 0, 4, .inl rb))]) (met_from l D dT n4 hw0 (fun _ => 0) w) ⟨hx, hb, hml, hown, hts⟩ (va_cwS 2 hts (lw_S q114 q115 q4 q116) rfl rfl rfl (by decide +kernel) ⟨Nat.le_of_ble_eq_true rfl, Nat.le_of_ble_eq_true rfl⟩) hP hD hS hK hA [2, 1] [0] rfl rfl rfl rfl (by decide) rfl hl.1 rfl (Nat.le_of_ble_eq_true rfl) dX3_decode_11 ⟨Nat.le_of_ble_eq_true rfl, Nat.le_of_ble_eq_true rfl⟩ (fun cw H locs hcw hP hD hS => ?_)
  have hP : va_P D vwCl [(hm, .inl (dT 0, 4, .inl rb)), (n4, .inl (dT 2, 48, .inl cw)), (hw0, .inl (dT 1, 24, .inr (.inl w)))] H := hP
  have hD : va_D A [(hm, .inl (dT 0, 4, .inl rb)), (n4, .inl (dT 2, 48, .inl cw)), (hw0, .inl (dT 1, 24, .inr (.inl w)))] := hD
  refine lv_sipush (v := 128) hx hb dX3_decode_14 (by decide) ?_
  refine nw_i (N := 128) hx hb hts hK hP hD hS hA (by decide) (by decide) (Nat.le_of_ble_eq_true rfl) (Nat.le_of_ble_eq_true rfl) (Nat.le_of_ble_eq_true rfl) dX3_decode_17 (fun n5 H hP hD hS => ?_)
  have hP : va_P D vwCl [(hm, .inl (dT 0, 4, .inl rb)), (n4, .inl (dT 2, 48, .inl cw)), (hw0, .inl (dT 1, 24, .inr (.inl w))), (n5, .inl (dT 2, 128, .inl (fun _ => 0)))] H := hP
  have hD : va_D A [(hm, .inl (dT 0, 4, .inl rb)), (n4, .inl (dT 2, 48, .inl cw)), (hw0, .inl (dT 1, 24, .inr (.inl w))), (n5, .inl (dT 2, 128, .inl (fun _ => 0)))] := hD
  refine lv_astore (lv' := [(5, .ref n5), (4, .ref n4), (0, .ref hm), (1, .ref hw0), (2, .int 4), (3, .int 3)]) hx hb dX3_decode_19 hl (by decide) rfl (fun ls hl => ?_)
  refine lv_sipush (v := 128) hx hb dX3_decode_21 (by decide) ?_
  refine nw_i (N := 128) hx hb hts hK hP hD hS hA (by decide) (by decide) (Nat.le_of_ble_eq_true rfl) (Nat.le_of_ble_eq_true rfl) (Nat.le_of_ble_eq_true rfl) dX3_decode_24 (fun n6 H hP hD hS => ?_)
  have hP : va_P D vwCl [(hm, .inl (dT 0, 4, .inl rb)), (n4, .inl (dT 2, 48, .inl cw)), (hw0, .inl (dT 1, 24, .inr (.inl w))), (n5, .inl (dT 2, 128, .inl (fun _ => 0))), (n6, .inl (dT 2, 128, .inl (fun _ => 0)))] H := hP
  have hD : va_D A [(hm, .inl (dT 0, 4, .inl rb)), (n4, .inl (dT 2, 48, .inl cw)), (hw0, .inl (dT 1, 24, .inr (.inl w))), (n5, .inl (dT 2, 128, .inl (fun _ => 0))), (n6, .inl (dT 2, 128, .inl (fun _ => 0)))] := hD
  refine lv_astore (lv' := [(6, .ref n6), (5, .ref n5), (4, .ref n4), (0, .ref hm), (1, .ref hw0), (2, .int 4), (3, .int 3)]) hx hb dX3_decode_26 hl (by decide) rfl (fun ls hl => ?_)
  refine lv_iconst (v := 0) hx hb dX3_decode_28 (by decide) ?_
  refine lv_istore (lv' := [(7, .int 0), (6, .ref n6), (5, .ref n5), (4, .ref n4), (0, .ref hm), (1, .ref hw0), (2, .int 4), (3, .int 3)]) hx hb dX3_decode_29 hl (by decide) rfl (fun ls hl => ?_)
  have outer : ∀ (n : Nat) (i : Nat) (x7 : Int32) (u ex tm : Nat → Int32) (H : Heap) (locs : List Loc) (ls : Array Slot), i ≤ 4 → 5 ≤ i + n → x7 = nI i → (∀ k, k < i → u k = dcl w k) → va_P D vwCl [(hm, .inl (dT 0, 4, .inl u)), (hw0, .inl (dT 1, 24, .inr (.inl w))), (n4, .inl (dT 2, 48, .inl cw)), (n5, .inl (dT 2, 128, .inl ex)), (n6, .inl (dT 2, 128, .inl tm))] H → va_D A [(hm, .inl (dT 0, 4, .inl u)), (hw0, .inl (dT 1, 24, .inr (.inl w))), (n4, .inl (dT 2, 48, .inl cw)), (n5, .inl (dT 2, 128, .inl ex)), (n6, .inl (dT 2, 128, .inl tm))] → va_S A s.heap H locs → lv_has ls 8 [(0, .ref hm), (1, .ref hw0), (2, .int 4), (3, .int 3), (4, .ref n4), (5, .ref n5), (6, .ref n6), (7, .int x7)] → W p l e rm_X3_decode s m args below meth c H locs 3 304 Q (F0 m 31 ls []) := by
    intro n
    induction n with
    | zero =>
      intro i x7 u ex tm H locs ls h1 h2 h3 h4
      exact absurd h2 (by omega)
    | succ n ih =>
      intro i x7 u ex tm H locs ls h1 h2 h3 h4 hP hD hS hl
      refine lv_iload hx hb dX3_decode_31 (lv_at hl 7 rfl) ?_
      refine lv_iload_n hx hb dX3_decode_33 rfl (lv_at hl 2 rfl) ?_
      refine lv_icmp_ge (tgt := 83) hx hb dX3_decode_34 (by decide) (fun c34 => ?_) (fun c34 => ?_)
      · have hi : i = 4 := by have := ge_t c34 h3 (show (4 : Int32) = nI 4 from rfl) (by omega) (by omega); omega
        subst hi
        rw [hQ]
        exact rt_v hx hb hr hlocks u h4 (hP.sub [0, 1] rfl) (hD.sub [0, 1] (by decide) rfl) hS (Nat.le_refl _) (Nat.le_refl _) dX3_decode_83
      · have hi : i < 4 := ge_f c34 h3 (show (4 : Int32) = nI 4 from rfl) (by omega) (by omega)
        have m0 : x7 * 3 = nI (3 * i) := by rw [muN h3 (show (3 : Int32) = nI 3 from rfl)]; exact nIe (by omega)
        refine lv_aload hx hb dX3_decode_37 (lv_at hl 5 rfl) ?_
        refine lv_aload hx hb dX3_decode_39 (lv_at hl 4 rfl) ?_
        refine lv_iload hx hb dX3_decode_41 (lv_at hl 7 rfl) ?_
        refine lv_iload_n hx hb dX3_decode_43 rfl (lv_at hl 3 rfl) ?_
        refine lv_imul hx hb dX3_decode_44 ?_
        refine lv_iload_n hx hb dX3_decode_45 rfl (lv_at hl 3 rfl) ?_
        refine cl_Sv (As := [.ref n5, .ref n4, .int (x7 * 3), .int 3]) (rest := []) (wr := [(hm, .inl (dT 0, 4, .inl u)), (hw0, .inl (dT 1, 24, .inr (.inl w))), (n6, .inl (dT 2, 128, .inl tm))]) (met_expand l D dT n5 n4 ex cw i hi (x7 * 3) m0) ⟨hx, hb, hml, hown, hts⟩ (va_cwS 4 hts (lw_S q117 q118 q3 q119) rfl rfl rfl (by decide +kernel) ⟨Nat.le_of_ble_eq_true rfl, Nat.le_of_ble_eq_true rfl⟩) hP hD hS hK hA [3, 2] [0, 1, 4] rfl rfl rfl rfl (by decide) rfl hl.1 rfl (Nat.le_of_ble_eq_true rfl) dX3_decode_46 ⟨Nat.le_of_ble_eq_true rfl, Nat.le_of_ble_eq_true rfl⟩ (fun ex1 H locs hex1 hP hD hS => ?_)
        have hP : va_P D vwCl [(hm, .inl (dT 0, 4, .inl u)), (hw0, .inl (dT 1, 24, .inr (.inl w))), (n6, .inl (dT 2, 128, .inl tm)), (n5, .inl (dT 2, 128, .inl ex1)), (n4, .inl (dT 2, 48, .inl cw))] H := hP
        have hD : va_D A [(hm, .inl (dT 0, 4, .inl u)), (hw0, .inl (dT 1, 24, .inr (.inl w))), (n6, .inl (dT 2, 128, .inl tm)), (n5, .inl (dT 2, 128, .inl ex1)), (n4, .inl (dT 2, 48, .inl cw))] := hD
        refine lv_aload hx hb dX3_decode_49 (lv_at hl 5 rfl) ?_
        refine lv_aload hx hb dX3_decode_51 (lv_at hl 6 rfl) ?_
        refine cl_Sv (As := [.ref n5, .ref n6]) (rest := []) (wr := [(hm, .inl (dT 0, 4, .inl u)), (hw0, .inl (dT 1, 24, .inr (.inl w))), (n4, .inl (dT 2, 48, .inl cw))]) (met_had l D dT n5 n6 ex1 tm) ⟨hx, hb, hml, hown, hts⟩ (va_cwS 2 hts (lw_S q120 q121 q3 q122) rfl rfl rfl (by decide +kernel) ⟨Nat.le_of_ble_eq_true rfl, Nat.le_of_ble_eq_true rfl⟩) hP hD hS hK hA [3, 2] [0, 1, 4] rfl rfl rfl rfl (by decide) rfl hl.1 rfl (Nat.le_of_ble_eq_true rfl) dX3_decode_53 ⟨Nat.le_of_ble_eq_true rfl, Nat.le_of_ble_eq_true rfl⟩ (fun uu H locs huu hP hD hS => ?_)
        have hP : va_P D vwCl [(hm, .inl (dT 0, 4, .inl u)), (hw0, .inl (dT 1, 24, .inr (.inl w))), (n4, .inl (dT 2, 48, .inl cw)), (n5, .inl (dT 2, 128, .inl uu.1)), (n6, .inl (dT 2, 128, .inl uu.2))] H := hP
        have hD : va_D A [(hm, .inl (dT 0, 4, .inl u)), (hw0, .inl (dT 1, 24, .inr (.inl w))), (n4, .inl (dT 2, 48, .inl cw)), (n5, .inl (dT 2, 128, .inl uu.1)), (n6, .inl (dT 2, 128, .inl uu.2))] := hD
        refine lv_aload hx hb dX3_decode_56 (lv_at hl 6 rfl) ?_
        refine lv_iconst (v := 0) hx hb dX3_decode_58 (by decide) ?_
        refine lv_dup2_11 hx hb dX3_decode_59 rfl rfl ?_
        refine va_iald hx hb hK hP 4 2 rfl rfl (vin (k := 0) rfl (by decide) (by decide)) dX3_decode_60 ?_
        refine lv_bipush (v := 64) hx hb dX3_decode_61 (by decide) ?_
        refine lv_iload_n hx hb dX3_decode_63 rfl (lv_at hl 3 rfl) ?_
        refine lv_imul hx hb dX3_decode_64 ?_
        refine lv_isub hx hb dX3_decode_65 ?_
        refine va_iast hx hb hK hP hD hS 4 2 rfl rfl (vin (k := 0) rfl (by decide) (by decide)) dX3_decode_66 (fun H locs hP hD hS => ?_)
        obtain ⟨tm1, etm1⟩ : ∃ g : Nat → Int32, g = upd uu.2 (0 : Int32).toNatClampNeg ((uu.2 (0 : Int32).toNatClampNeg) - (64 * 3)) := ⟨_, rfl⟩
        have hP : va_P D vwCl [(hm, .inl (dT 0, 4, .inl u)), (hw0, .inl (dT 1, 24, .inr (.inl w))), (n4, .inl (dT 2, 48, .inl cw)), (n5, .inl (dT 2, 128, .inl uu.1)), (n6, .inl (dT 2, 128, .inl tm1))] H := by rw [etm1]; exact hP
        have hD : va_D A [(hm, .inl (dT 0, 4, .inl u)), (hw0, .inl (dT 1, 24, .inr (.inl w))), (n4, .inl (dT 2, 48, .inl cw)), (n5, .inl (dT 2, 128, .inl uu.1)), (n6, .inl (dT 2, 128, .inl tm1))] := by rw [etm1]; exact hD
        refine lv_aload_n hx hb dX3_decode_67 rfl (lv_at hl 0 rfl) ?_
        refine lv_iload hx hb dX3_decode_68 (lv_at hl 7 rfl) ?_
        refine lv_aload hx hb dX3_decode_70 (lv_at hl 6 rfl) ?_
        refine cl_Si (As := [.ref n6]) (rest := [.int x7, .ref hm]) (wr := [(hm, .inl (dT 0, 4, .inl u)), (hw0, .inl (dT 1, 24, .inr (.inl w))), (n4, .inl (dT 2, 48, .inl cw)), (n5, .inl (dT 2, 128, .inl uu.1))]) (met_peaks l D dT n6 tm1) ⟨hx, hb, hml, hown, hts⟩ (va_cwS 1 hts (lw_S q123 q124 q3 q125) rfl rfl rfl (by decide +kernel) ⟨Nat.le_of_ble_eq_true rfl, Nat.le_of_ble_eq_true rfl⟩) hP hD hS hK hA [4] [0, 1, 2, 3] rfl rfl rfl rfl (by decide) rfl hl.1 rfl (Nat.le_of_ble_eq_true rfl) dX3_decode_72 ⟨Nat.le_of_ble_eq_true rfl, Nat.le_of_ble_eq_true rfl⟩ (fun rp _u H locs hrp hP hD hS => ?_)
        have hP : va_P D vwCl [(hm, .inl (dT 0, 4, .inl u)), (hw0, .inl (dT 1, 24, .inr (.inl w))), (n4, .inl (dT 2, 48, .inl cw)), (n5, .inl (dT 2, 128, .inl uu.1)), (n6, .inl (dT 2, 128, .inl tm1))] H := hP
        have hD : va_D A [(hm, .inl (dT 0, 4, .inl u)), (hw0, .inl (dT 1, 24, .inr (.inl w))), (n4, .inl (dT 2, 48, .inl cw)), (n5, .inl (dT 2, 128, .inl uu.1)), (n6, .inl (dT 2, 128, .inl tm1))] := hD
        refine lv_i2b hx hb dX3_decode_75 rfl ?_
        refine va_bast hx hb hK hP hD hS 0 0 rfl rfl (vin h3 hi (by decide)) dX3_decode_76 (fun H locs hP hD hS => ?_)
        obtain ⟨u1, eu1⟩ : ∃ g : Nat → Int32, g = upd u (x7 : Int32).toNatClampNeg (vp_nar .byte rp.toInt8.toInt32) := ⟨_, rfl⟩
        have hP : va_P D vwCl [(hm, .inl (dT 0, 4, .inl u1)), (hw0, .inl (dT 1, 24, .inr (.inl w))), (n4, .inl (dT 2, 48, .inl cw)), (n5, .inl (dT 2, 128, .inl uu.1)), (n6, .inl (dT 2, 128, .inl tm1))] H := by rw [eu1]; exact hP
        have hD : va_D A [(hm, .inl (dT 0, 4, .inl u1)), (hw0, .inl (dT 1, 24, .inr (.inl w))), (n4, .inl (dT 2, 48, .inl cw)), (n5, .inl (dT 2, 128, .inl uu.1)), (n6, .inl (dT 2, 128, .inl tm1))] := by rw [eu1]; exact hD
        obtain ⟨x7b, ex7b⟩ : ∃ y : Int32, y = x7 + 1 := ⟨_, rfl⟩
        refine lv_iinc (v := x7b) (lv' := [(7, .int x7b), (0, .ref hm), (1, .ref hw0), (2, .int 4), (3, .int 3), (4, .ref n4), (5, .ref n5), (6, .ref n6)]) hx hb dX3_decode_77 hl (k := 7) rfl (by rw [ex7b]; rfl) (by decide) rfl (fun ls hl => ?_)
        refine lv_goto (tgt := 31) hx hb dX3_decode_80 (by decide) ?_
        rw [cl_0] at etm1
        rw [cln h3 (by omega), pk_vb] at eu1
        have hN : ∀ k, k < i + 1 → u1 k = dcl w k := by
          intro k hk
          by_cases k1 : k = i
          · rw [upd_at eu1 k1, k1, hrp]
            unfold dcl
            rw [pkR_congr (g := dcf (cwOf w) i)]
            intro j hj
            have e1 : ∀ q, q < 128 → ex1 q = exc (cwOf w) (12 * i) 2 q := fun q hq => (hex1 q hq).trans (exc_congr hcw 2 q hq (by omega))
            unfold dcf
            by_cases j0 : j = 0
            · rw [upd_at etm1 j0, if_pos j0, huu 0 (by omega), hpw_congr e1 7 0 (by omega)]
              rfl
            · rw [upd_ne etm1 j0, if_neg j0, huu j hj, hpw_congr e1 7 j hj]
          · rw [upd_ne eu1 k1]
            exact h4 k (by omega)
        exact ih (i + 1) x7b u1 uu.1 tm1 _ _ _ (by omega) (by omega) (by rw [ex7b]; exact ad1 h3) hN hP hD hS (lv_sub hl [1, 2, 3, 4, 5, 6, 7, 0] rfl)
  exact outer 5 0 0 rb (fun _ => 0) (fun _ => 0) _ _ _ (by omega) (by omega) rfl (fun k hk => absurd hk (by omega)) (hP.sub [0, 2, 1, 3, 4] rfl) (hD.sub [0, 2, 1, 3, 4] (by decide) rfl) hS (lv_sub hl [4, 5, 6, 7, 3, 2, 1, 0] rfl)
end
section
/-! InnerCode -/
set_option maxRecDepth 100000
abbrev rm_X1_init : Room := { frames := 1, cells := 3, slots := 32, locals := 12 }
set_option maxHeartbeats 4000000 in
set_option maxRecDepth 100000 in
/-- InnerCode(): three arrays of noughts -/
theorem metX1_init (l : Launch) (D : va_G) (dT : Nat → ClassId) (h0 : Nat) : ∀ sz : Nat, Met l yX1_init (ws_ yX1_init cX1_init 1 none) rm_X1_init (va_Pc [.ref h0] (PCx D dT sz [(h0, .inr (0, [.null, .null, .null, .int 0]))])) (va_Qv (fun (u : Nat × Nat × Nat) => True) (BCx D (fun u : Nat × Nat × Nat => [(h0, .inr (0, [.ref u.1, .ref u.2.1, .ref u.2.2, .int 0])), (u.1, .inl (dT 0, 4, .inl (fun _ => 0))), (u.2.1, .inl (dT 1, 24, .inr (.inl (fun _ => 0)))), (u.2.2, .inl (dT 0, 4, .inl (fun _ => 0)))]) (va_A [(h0, .inr (0, [.null, .null, .null, .int 0]))] sz)) (va_A [(h0, .inr (0, [.null, .null, .null, .int 0]))] sz)) 3 32 (va_A [(h0, .inr (0, [.null, .null, .null, .int 0]))] sz) := by
  refine mt_of (Qc := fun A => (va_Qv (fun (u : Nat × Nat × Nat) => True) (BCx D (fun u : Nat × Nat × Nat => [(h0, .inr (0, [.ref u.1, .ref u.2.1, .ref u.2.2, .int 0])), (u.1, .inl (dT 0, 4, .inl (fun _ => 0))), (u.2.1, .inl (dT 1, 24, .inr (.inl (fun _ => 0)))), (u.2.2, .inl (dT 0, 4, .inl (fun _ => 0)))]) A) A)) (mc := 3) (ms := 32) (by decide) (Nat.le_of_ble_eq_true rfl) ?_
  intro p e s m args below meth c hx hb hr hlocks hml hts hown hnm A hA H locs hP hD hK hS ls hl Q hQ
  have hown : s.vm.findClass RX1 = some m.cls := hown
  have hl : lv_has ls 1 [(0, .ref h0)] := hl
  have hin : meth.name = "<init>" := hnm
  refine lv_aload_n hx hb dX1_init_0 rfl (lv_at hl 0 rfl) ?_
  refine W.objInit hx hb hown (hts _ q11) (hts _ q12) (hts _ q13) rfl (by rw [hml]; exact hl.1) rfl dX1_init_1 (Nat.le_of_ble_eq_true rfl) (Nat.le_of_ble_eq_true rfl) ?_
  refine W.eq (g2 := F0 m 4 ls []) rfl ?_
  refine lv_aload_n hx hb dX1_init_4 rfl (lv_at hl 0 rfl) ?_
  refine lv_iconst (v := 4) hx hb dX1_init_5 (by decide) ?_
  refine nw_b (N := 4) hx hb hts hK hP hD hS hA (by decide) (by decide) (Nat.le_of_ble_eq_true rfl) (Nat.le_of_ble_eq_true rfl) (Nat.le_of_ble_eq_true rfl) dX1_init_6 (fun ql H hP hD hS => ?_)
  have hP : va_P D vwCl [(h0, .inr (0, [.null, .null, .null, .int 0])), (ql, .inl (dT 0, 4, .inl (fun _ => 0)))] H := hP
  have hD : va_D A [(h0, .inr (0, [.null, .null, .null, .int 0])), (ql, .inl (dT 0, 4, .inl (fun _ => 0)))] := hD
  refine va_putF (D := D) (ci := 0) (v := .ref ql) (ty := .array .byte) (C := RX1) (T := TX1) (N := 4) hx hb hts in_X1 tyX1 tyX1_ok nmX1 hown hK hP hD hS 0 rfl rfl 0 (by decide) (hts _ q14) (fun _ h9 => h9) rfl hin rfl (by decide +kernel) rfl rfl (Nat.le_of_ble_eq_true rfl) dX1_init_8 (fun H locs hP hD hS => ?_)
  have hP : va_P D vwCl [(h0, .inr (0, [.ref ql, .null, .null, .int 0])), (ql, .inl (dT 0, 4, .inl (fun _ => 0)))] H := hP
  have hD : va_D A [(h0, .inr (0, [.ref ql, .null, .null, .int 0])), (ql, .inl (dT 0, 4, .inl (fun _ => 0)))] := hD
  refine lv_aload_n hx hb dX1_init_11 rfl (lv_at hl 0 rfl) ?_
  refine lv_bipush (v := 24) hx hb dX1_init_12 (by decide) ?_
  refine nw_l (N := 24) hx hb hts hK hP hD hS hA (by decide) (by decide) (Nat.le_of_ble_eq_true rfl) (Nat.le_of_ble_eq_true rfl) (Nat.le_of_ble_eq_true rfl) dX1_init_14 (fun qw H hP hD hS => ?_)
  have hP : va_P D vwCl [(h0, .inr (0, [.ref ql, .null, .null, .int 0])), (ql, .inl (dT 0, 4, .inl (fun _ => 0))), (qw, .inl (dT 1, 24, .inr (.inl (fun _ => 0))))] H := hP
  have hD : va_D A [(h0, .inr (0, [.ref ql, .null, .null, .int 0])), (ql, .inl (dT 0, 4, .inl (fun _ => 0))), (qw, .inl (dT 1, 24, .inr (.inl (fun _ => 0))))] := hD
  refine va_putF (D := D) (ci := 0) (v := .ref qw) (ty := .array .long) (C := RX1) (T := TX1) (N := 4) hx hb hts in_X1 tyX1 tyX1_ok nmX1 hown hK hP hD hS 0 rfl rfl 1 (by decide) (hts _ q15) (fun _ h9 => h9) rfl hin rfl (by decide +kernel) rfl rfl (Nat.le_of_ble_eq_true rfl) dX1_init_16 (fun H locs hP hD hS => ?_)
  have hP : va_P D vwCl [(h0, .inr (0, [.ref ql, .ref qw, .null, .int 0])), (ql, .inl (dT 0, 4, .inl (fun _ => 0))), (qw, .inl (dT 1, 24, .inr (.inl (fun _ => 0))))] H := hP
  have hD : va_D A [(h0, .inr (0, [.ref ql, .ref qw, .null, .int 0])), (ql, .inl (dT 0, 4, .inl (fun _ => 0))), (qw, .inl (dT 1, 24, .inr (.inl (fun _ => 0))))] := hD
  refine lv_aload_n hx hb dX1_init_19 rfl (lv_at hl 0 rfl) ?_
  refine lv_iconst (v := 4) hx hb dX1_init_20 (by decide) ?_
  refine nw_b (N := 4) hx hb hts hK hP hD hS hA (by decide) (by decide) (Nat.le_of_ble_eq_true rfl) (Nat.le_of_ble_eq_true rfl) (Nat.le_of_ble_eq_true rfl) dX1_init_21 (fun qr H hP hD hS => ?_)
  have hP : va_P D vwCl [(h0, .inr (0, [.ref ql, .ref qw, .null, .int 0])), (ql, .inl (dT 0, 4, .inl (fun _ => 0))), (qw, .inl (dT 1, 24, .inr (.inl (fun _ => 0)))), (qr, .inl (dT 0, 4, .inl (fun _ => 0)))] H := hP
  have hD : va_D A [(h0, .inr (0, [.ref ql, .ref qw, .null, .int 0])), (ql, .inl (dT 0, 4, .inl (fun _ => 0))), (qw, .inl (dT 1, 24, .inr (.inl (fun _ => 0)))), (qr, .inl (dT 0, 4, .inl (fun _ => 0)))] := hD
  refine va_putF (D := D) (ci := 0) (v := .ref qr) (ty := .array .byte) (C := RX1) (T := TX1) (N := 4) hx hb hts in_X1 tyX1 tyX1_ok nmX1 hown hK hP hD hS 0 rfl rfl 2 (by decide) (hts _ q16) (fun _ h9 => h9) rfl hin rfl (by decide +kernel) rfl rfl (Nat.le_of_ble_eq_true rfl) dX1_init_23 (fun H locs hP hD hS => ?_)
  have hP : va_P D vwCl [(h0, .inr (0, [.ref ql, .ref qw, .ref qr, .int 0])), (ql, .inl (dT 0, 4, .inl (fun _ => 0))), (qw, .inl (dT 1, 24, .inr (.inl (fun _ => 0)))), (qr, .inl (dT 0, 4, .inl (fun _ => 0)))] H := hP
  have hD : va_D A [(h0, .inr (0, [.ref ql, .ref qw, .ref qr, .int 0])), (ql, .inl (dT 0, 4, .inl (fun _ => 0))), (qw, .inl (dT 1, 24, .inr (.inl (fun _ => 0)))), (qr, .inl (dT 0, 4, .inl (fun _ => 0)))] := hD
  rw [hQ]
  exact rt_v hx hb hr hlocks (ql, qw, qr) trivial hP hD hS (Nat.le_refl _) (Nat.le_refl _) dX1_init_26
abbrev rm_X1_letter : Room := { frames := 0, cells := 0, slots := 0, locals := 0 }
set_option maxHeartbeats 4000000 in
set_option maxRecDepth 100000 in
/-- letter(i, v) -/
theorem metX1_letter (l : Launch) (D : va_G) (dT : Nat → ClassId) (h0 ql qw qr : Nat) (lb : Nat → Int32) (w : Nat → Int64) (rb : Nat → Int32) (hm : Int32) (i v : Int32) : ∀ sz : Nat, Met l yX1_letter (ws_ yX1_letter cX1_letter 3 none) rm_X1_letter (va_Pc [.ref h0, .int i, .int v] (PCx D dT sz [(h0, .inr (0, [.ref ql, .ref qw, .ref qr, .int hm])), (ql, .inl (dT 0, 4, .inl lb)), (qw, .inl (dT 1, 24, .inr (.inl w))), (qr, .inl (dT 0, 4, .inl rb))])) (va_Qv (fun (u : Nat → Int32) => u (n3 i) = v.toInt8.toInt32 ∧ ∀ k, k ≠ n3 i → u k = lb k) (BCx D (fun u : Nat → Int32 => [(h0, .inr (0, [.ref ql, .ref qw, .ref qr, .int hm])), (ql, .inl (dT 0, 4, .inl u)), (qw, .inl (dT 1, 24, .inr (.inl w))), (qr, .inl (dT 0, 4, .inl rb))]) (va_A [(h0, .inr (0, [.ref ql, .ref qw, .ref qr, .int hm])), (ql, .inl (dT 0, 4, .inl lb)), (qw, .inl (dT 1, 24, .inr (.inl w))), (qr, .inl (dT 0, 4, .inl rb))] sz)) (va_A [(h0, .inr (0, [.ref ql, .ref qw, .ref qr, .int hm])), (ql, .inl (dT 0, 4, .inl lb)), (qw, .inl (dT 1, 24, .inr (.inl w))), (qr, .inl (dT 0, 4, .inl rb))] sz)) 0 0 (va_A [(h0, .inr (0, [.ref ql, .ref qw, .ref qr, .int hm])), (ql, .inl (dT 0, 4, .inl lb)), (qw, .inl (dT 1, 24, .inr (.inl w))), (qr, .inl (dT 0, 4, .inl rb))] sz) := by
  refine mt_of (Qc := fun A => (va_Qv (fun (u : Nat → Int32) => u (n3 i) = v.toInt8.toInt32 ∧ ∀ k, k ≠ n3 i → u k = lb k) (BCx D (fun u : Nat → Int32 => [(h0, .inr (0, [.ref ql, .ref qw, .ref qr, .int hm])), (ql, .inl (dT 0, 4, .inl u)), (qw, .inl (dT 1, 24, .inr (.inl w))), (qr, .inl (dT 0, 4, .inl rb))]) A) A)) (mc := 0) (ms := 0) (by decide) (Nat.le_of_ble_eq_true rfl) ?_
  intro p e s m args below meth c hx hb hr hlocks hml hts hown hnm A hA H locs hP hD hK hS ls hl Q hQ
  have hown : s.vm.findClass RX1 = some m.cls := hown
  have hl : lv_has ls 3 [(0, .ref h0), (1, .int i), (2, .int v)] := hl
  refine lv_aload_n hx hb dX1_letter_0 rfl (lv_at hl 0 rfl) ?_
  refine va_get (D := D) (ci := 0) (v := .ref ql) (C := RX1) (T := TX1) (N := 4) hx hb hts in_X1 hown hK hP 0 rfl rfl 0 (by decide) (hts _ q14) (fun _ h9 => h9) rfl dX1_letter_1 ?_
  refine lv_iload_n hx hb dX1_letter_4 rfl (lv_at hl 1 rfl) ?_
  refine lv_iconst (v := 3) hx hb dX1_letter_5 (by decide) ?_
  refine lv_iand hx hb dX1_letter_6 ?_
  refine lv_iload_n hx hb dX1_letter_7 rfl (lv_at hl 2 rfl) ?_
  refine lv_i2b hx hb dX1_letter_8 rfl ?_
  refine va_bast hx hb hK hP hD hS 1 0 rfl rfl (vin (n3_and i) (n3_lt i) (by decide)) dX1_letter_9 (fun H locs hP hD hS => ?_)
  obtain ⟨u1, eu1⟩ : ∃ g : Nat → Int32, g = upd lb ((i &&& 3) : Int32).toNatClampNeg (vp_nar .byte v.toInt8.toInt32) := ⟨_, rfl⟩
  have hP : va_P D vwCl [(h0, .inr (0, [.ref ql, .ref qw, .ref qr, .int hm])), (ql, .inl (dT 0, 4, .inl u1)), (qw, .inl (dT 1, 24, .inr (.inl w))), (qr, .inl (dT 0, 4, .inl rb))] H := by rw [eu1]; exact hP
  have hD : va_D A [(h0, .inr (0, [.ref ql, .ref qw, .ref qr, .int hm])), (ql, .inl (dT 0, 4, .inl u1)), (qw, .inl (dT 1, 24, .inr (.inl w))), (qr, .inl (dT 0, 4, .inl rb))] := by rw [eu1]; exact hD
  rw [cln (n3_and i) (Nat.lt_trans (n3_lt i) (by decide)), pk_vb] at eu1
  rw [hQ]
  exact rt_v hx hb hr hlocks u1 ⟨upd_at eu1 rfl, fun k hk => upd_ne eu1 hk⟩ hP hD hS (Nat.le_refl _) (Nat.le_refl _) dX1_letter_10
abbrev rm_X1_letter_2 : Room := { frames := 0, cells := 0, slots := 0, locals := 0 }
set_option maxHeartbeats 4000000 in
set_option maxRecDepth 100000 in
/-- letter(i) -/
theorem metX1_letter_2 (l : Launch) (D : va_G) (dT : Nat → ClassId) (h0 ql qw qr : Nat) (lb : Nat → Int32) (w : Nat → Int64) (rb : Nat → Int32) (hm : Int32) (i : Int32) : ∀ sz : Nat, Met l yX1_letter_2 (ws_ yX1_letter_2 cX1_letter_2 2 (some .int)) rm_X1_letter_2 (va_Pc [.ref h0, .int i] (PCx D dT sz [(h0, .inr (0, [.ref ql, .ref qw, .ref qr, .int hm])), (ql, .inl (dT 0, 4, .inl lb)), (qw, .inl (dT 1, 24, .inr (.inl w))), (qr, .inl (dT 0, 4, .inl rb))])) (va_Qi (fun (r : Int32) (u : Unit) => r = lb (n3 i) &&& 255) (BCx D (fun u : Unit => [(h0, .inr (0, [.ref ql, .ref qw, .ref qr, .int hm])), (ql, .inl (dT 0, 4, .inl lb)), (qw, .inl (dT 1, 24, .inr (.inl w))), (qr, .inl (dT 0, 4, .inl rb))]) (va_A [(h0, .inr (0, [.ref ql, .ref qw, .ref qr, .int hm])), (ql, .inl (dT 0, 4, .inl lb)), (qw, .inl (dT 1, 24, .inr (.inl w))), (qr, .inl (dT 0, 4, .inl rb))] sz)) (va_A [(h0, .inr (0, [.ref ql, .ref qw, .ref qr, .int hm])), (ql, .inl (dT 0, 4, .inl lb)), (qw, .inl (dT 1, 24, .inr (.inl w))), (qr, .inl (dT 0, 4, .inl rb))] sz)) 0 0 (va_A [(h0, .inr (0, [.ref ql, .ref qw, .ref qr, .int hm])), (ql, .inl (dT 0, 4, .inl lb)), (qw, .inl (dT 1, 24, .inr (.inl w))), (qr, .inl (dT 0, 4, .inl rb))] sz) := by
  refine mt_of (Qc := fun A => (va_Qi (fun (r : Int32) (u : Unit) => r = lb (n3 i) &&& 255) (BCx D (fun u : Unit => [(h0, .inr (0, [.ref ql, .ref qw, .ref qr, .int hm])), (ql, .inl (dT 0, 4, .inl lb)), (qw, .inl (dT 1, 24, .inr (.inl w))), (qr, .inl (dT 0, 4, .inl rb))]) A) A)) (mc := 0) (ms := 0) (by decide) (Nat.le_of_ble_eq_true rfl) ?_
  intro p e s m args below meth c hx hb hr hlocks hml hts hown hnm A hA H locs hP hD hK hS ls hl Q hQ
  have hown : s.vm.findClass RX1 = some m.cls := hown
  have hl : lv_has ls 2 [(0, .ref h0), (1, .int i)] := hl
  refine lv_aload_n hx hb dX1_letter_2_0 rfl (lv_at hl 0 rfl) ?_
  refine va_get (D := D) (ci := 0) (v := .ref ql) (C := RX1) (T := TX1) (N := 4) hx hb hts in_X1 hown hK hP 0 rfl rfl 0 (by decide) (hts _ q14) (fun _ h9 => h9) rfl dX1_letter_2_1 ?_
  refine lv_iload_n hx hb dX1_letter_2_4 rfl (lv_at hl 1 rfl) ?_
  refine lv_iconst (v := 3) hx hb dX1_letter_2_5 (by decide) ?_
  refine lv_iand hx hb dX1_letter_2_6 ?_
  refine va_bald hx hb hK hP 1 0 rfl rfl (vin (n3_and i) (n3_lt i) (by decide)) dX1_letter_2_7 ?_
  refine lv_sipush (v := 255) hx hb dX1_letter_2_8 (by decide) ?_
  refine lv_iand hx hb dX1_letter_2_11 ?_
  rw [hQ]
  exact rt_i hx hb hr hlocks () (by rw [cln (n3_and i) (Nat.lt_trans (n3_lt i) (by decide))]) hP hD hS (Nat.le_refl _) (Nat.le_refl _) dX1_letter_2_12
abbrev rm_X1_write : Room := { frames := 3, cells := 1, slots := 4, locals := 100 }
set_option maxHeartbeats 4000000 in
set_option maxRecDepth 100000 in
/-- write() -/
theorem metX1_write (l : Launch) (D : va_G) (dT : Nat → ClassId) (h0 ql qw qr : Nat) (lb : Nat → Int32) (w : Nat → Int64) (rb : Nat → Int32) (hm : Int32) : ∀ sz : Nat, Met l yX1_write (ws_ yX1_write cX1_write 2 none) rm_X1_write (va_Pc [.ref h0] (PCx D dT sz [(h0, .inr (0, [.ref ql, .ref qw, .ref qr, .int hm])), (ql, .inl (dT 0, 4, .inl lb)), (qw, .inl (dT 1, 24, .inr (.inl w))), (qr, .inl (dT 0, 4, .inl rb))])) (va_Qv (fun (u : Nat → Int64) => Enc lb 12 u) (BCx D (fun u : Nat → Int64 => [(h0, .inr (0, [.ref ql, .ref qw, .ref qr, .int 0])), (ql, .inl (dT 0, 4, .inl lb)), (qw, .inl (dT 1, 24, .inr (.inl u))), (qr, .inl (dT 0, 4, .inl rb))]) (va_A [(h0, .inr (0, [.ref ql, .ref qw, .ref qr, .int hm])), (ql, .inl (dT 0, 4, .inl lb)), (qw, .inl (dT 1, 24, .inr (.inl w))), (qr, .inl (dT 0, 4, .inl rb))] sz)) (va_A [(h0, .inr (0, [.ref ql, .ref qw, .ref qr, .int hm])), (ql, .inl (dT 0, 4, .inl lb)), (qw, .inl (dT 1, 24, .inr (.inl w))), (qr, .inl (dT 0, 4, .inl rb))] sz)) 1 4 (va_A [(h0, .inr (0, [.ref ql, .ref qw, .ref qr, .int hm])), (ql, .inl (dT 0, 4, .inl lb)), (qw, .inl (dT 1, 24, .inr (.inl w))), (qr, .inl (dT 0, 4, .inl rb))] sz) := by
  refine mt_of (Qc := fun A => (va_Qv (fun (u : Nat → Int64) => Enc lb 12 u) (BCx D (fun u : Nat → Int64 => [(h0, .inr (0, [.ref ql, .ref qw, .ref qr, .int 0])), (ql, .inl (dT 0, 4, .inl lb)), (qw, .inl (dT 1, 24, .inr (.inl u))), (qr, .inl (dT 0, 4, .inl rb))]) A) A)) (mc := 1) (ms := 4) (by decide) (Nat.le_of_ble_eq_true rfl) ?_
  intro p e s m args below meth c hx hb hr hlocks hml hts hown hnm A hA H locs hP hD hK hS ls hl Q hQ
  have hown : s.vm.findClass RX1 = some m.cls := hown
  have hl : lv_has ls 2 [(0, .ref h0)] := hl
  refine lv_iconst (v := 0) hx hb dX1_write_0 (by decide) ?_
  refine lv_istore_n (lv' := [(1, .int 0), (0, .ref h0)]) hx hb dX1_write_1 rfl hl (by decide) rfl (fun ls hl => ?_)
  have outer : ∀ (n : Nat) (i : Nat) (x1 : Int32) (u : Nat → Int64) (H : Heap) (locs : List Loc) (ls : Array Slot), i ≤ 24 → 25 ≤ i + n → x1 = nI i → va_P D vwCl [(h0, .inr (0, [.ref ql, .ref qw, .ref qr, .int hm])), (ql, .inl (dT 0, 4, .inl lb)), (qw, .inl (dT 1, 24, .inr (.inl u))), (qr, .inl (dT 0, 4, .inl rb))] H → va_D A [(h0, .inr (0, [.ref ql, .ref qw, .ref qr, .int hm])), (ql, .inl (dT 0, 4, .inl lb)), (qw, .inl (dT 1, 24, .inr (.inl u))), (qr, .inl (dT 0, 4, .inl rb))] → va_S A s.heap H locs → lv_has ls 2 [(0, .ref h0), (1, .int x1)] → W p l e rm_X1_write s m args below meth c H locs 0 0 Q (F0 m 2 ls []) := by
    intro n
    induction n with
    | zero =>
      intro i x1 u H locs ls h1 h2 h3
      exact absurd h2 (by omega)
    | succ n ih =>
      intro i x1 u H locs ls h1 h2 h3 hP hD hS hl
      refine lv_iload_n hx hb dX1_write_2 rfl (lv_at hl 1 rfl) ?_
      refine lv_aload_n hx hb dX1_write_3 rfl (lv_at hl 0 rfl) ?_
      refine va_get (D := D) (ci := 0) (v := .ref qw) (C := RX1) (T := TX1) (N := 4) hx hb hts in_X1 hown hK hP 0 rfl rfl 1 (by decide) (hts _ q15) (fun _ h9 => h9) rfl dX1_write_4 ?_
      refine va_alen (v := 24) hx hb hK hP 2 1 rfl rfl rfl dX1_write_7 ?_
      refine lv_icmp_ge (tgt := 24) hx hb dX1_write_8 (by decide) (fun c8 => ?_) (fun c8 => ?_)
      · refine lv_aload_n hx hb dX1_write_24 rfl (lv_at hl 0 rfl) ?_
        refine va_get (D := D) (ci := 0) (v := .ref qw) (C := RX1) (T := TX1) (N := 4) hx hb hts in_X1 hown hK hP 0 rfl rfl 1 (by decide) (hts _ q15) (fun _ h9 => h9) rfl dX1_write_25 ?_
        refine lv_aload_n hx hb dX1_write_28 rfl (lv_at hl 0 rfl) ?_
        refine va_get (D := D) (ci := 0) (v := .ref ql) (C := RX1) (T := TX1) (N := 4) hx hb hts in_X1 hown hK hP 0 rfl rfl 0 (by decide) (hts _ q14) (fun _ h9 => h9) rfl dX1_write_29 ?_
        refine lv_iconst (v := 4) hx hb dX1_write_32 (by decide) ?_
        refine lv_iconst (v := 3) hx hb dX1_write_33 (by decide) ?_
        refine cl_Sv (As := [.ref qw, .ref ql, .int 4, .int 3]) (rest := []) (wr := [(h0, .inr (0, [.ref ql, .ref qw, .ref qr, .int hm])), (qr, .inl (dT 0, 4, .inl rb))]) (met_encode l D dT qw ql u lb) ⟨hx, hb, hml, hown, hts⟩ (va_cwS 4 hts (lw_S q75 q76 q3 q77) rfl rfl rfl (by decide +kernel) ⟨Nat.le_of_ble_eq_true rfl, Nat.le_of_ble_eq_true rfl⟩) hP hD hS hK hA [2, 1] [0, 3] rfl rfl rfl rfl (by decide) rfl hl.1 rfl (Nat.le_of_ble_eq_true rfl) dX1_write_34 ⟨Nat.le_of_ble_eq_true rfl, Nat.le_of_ble_eq_true rfl⟩ (fun u2 H locs hu2 hP hD hS => ?_)
        have hP : va_P D vwCl [(h0, .inr (0, [.ref ql, .ref qw, .ref qr, .int hm])), (qr, .inl (dT 0, 4, .inl rb)), (qw, .inl (dT 1, 24, .inr (.inl u2))), (ql, .inl (dT 0, 4, .inl lb))] H := hP
        have hD : va_D A [(h0, .inr (0, [.ref ql, .ref qw, .ref qr, .int hm])), (qr, .inl (dT 0, 4, .inl rb)), (qw, .inl (dT 1, 24, .inr (.inl u2))), (ql, .inl (dT 0, 4, .inl lb))] := hD
        refine lv_aload_n hx hb dX1_write_37 rfl (lv_at hl 0 rfl) ?_
        refine lv_iconst (v := 0) hx hb dX1_write_38 (by decide) ?_
        refine va_put (D := D) (ci := 0) (v := .int 0) (ty := .int) (C := RX1) (T := TX1) (N := 4) hx hb hts in_X1 tyX1 tyX1_ok nmX1 hown hK hP hD hS 0 rfl rfl 3 (by decide) (hts _ q17) (fun _ h9 => h9) rfl (by decide +kernel) rfl rfl (Nat.le_of_ble_eq_true rfl) dX1_write_39 (fun H locs hP hD hS => ?_)
        have hP : va_P D vwCl [(h0, .inr (0, [.ref ql, .ref qw, .ref qr, .int 0])), (qr, .inl (dT 0, 4, .inl rb)), (qw, .inl (dT 1, 24, .inr (.inl u2))), (ql, .inl (dT 0, 4, .inl lb))] H := hP
        have hD : va_D A [(h0, .inr (0, [.ref ql, .ref qw, .ref qr, .int 0])), (qr, .inl (dT 0, 4, .inl rb)), (qw, .inl (dT 1, 24, .inr (.inl u2))), (ql, .inl (dT 0, 4, .inl lb))] := hD
        rw [hQ]
        exact rt_v hx hb hr hlocks u2 hu2 (hP.sub [0, 3, 2, 1] rfl) (hD.sub [0, 3, 2, 1] (by decide) rfl) hS (Nat.le_of_ble_eq_true rfl) (Nat.le_of_ble_eq_true rfl) dX1_write_42
      · have hi : i < 24 := ge_f c8 h3 (show (24 : Int32) = nI 24 from rfl) (by omega) (by omega)
        refine lv_aload_n hx hb dX1_write_11 rfl (lv_at hl 0 rfl) ?_
        refine va_get (D := D) (ci := 0) (v := .ref qw) (C := RX1) (T := TX1) (N := 4) hx hb hts in_X1 hown hK hP 0 rfl rfl 1 (by decide) (hts _ q15) (fun _ h9 => h9) rfl dX1_write_12 ?_
        refine lv_iload_n hx hb dX1_write_15 rfl (lv_at hl 1 rfl) ?_
        refine lv_lconst (v := 0) hx hb dX1_write_16 (by decide) ?_
        refine va_last hx hb hK hP hD hS 2 1 rfl rfl (vin h3 hi (by decide)) dX1_write_17 (fun H locs hP hD hS => ?_)
        obtain ⟨u1, eu1⟩ : ∃ g : Nat → Int64, g = vp_updL u (x1 : Int32).toNatClampNeg 0 := ⟨_, rfl⟩
        have hP : va_P D vwCl [(h0, .inr (0, [.ref ql, .ref qw, .ref qr, .int hm])), (ql, .inl (dT 0, 4, .inl lb)), (qw, .inl (dT 1, 24, .inr (.inl u1))), (qr, .inl (dT 0, 4, .inl rb))] H := by rw [eu1]; exact hP
        have hD : va_D A [(h0, .inr (0, [.ref ql, .ref qw, .ref qr, .int hm])), (ql, .inl (dT 0, 4, .inl lb)), (qw, .inl (dT 1, 24, .inr (.inl u1))), (qr, .inl (dT 0, 4, .inl rb))] := by rw [eu1]; exact hD
        obtain ⟨x1b, ex1b⟩ : ∃ y : Int32, y = x1 + 1 := ⟨_, rfl⟩
        refine lv_iinc (v := x1b) (lv' := [(1, .int x1b), (0, .ref h0)]) hx hb dX1_write_18 hl (k := 1) rfl (by rw [ex1b]; rfl) (by decide) rfl (fun ls hl => ?_)
        refine lv_goto (tgt := 2) hx hb dX1_write_21 (by decide) ?_
        exact ih (i + 1) x1b u1 _ _ _ (by omega) (by omega) (by rw [ex1b]; exact ad1 h3) hP hD hS (lv_sub hl [1, 0] rfl)
  exact outer 25 0 0 w _ _ _ (by omega) (by omega) rfl hP hD hS (lv_sub hl [1, 0] rfl)
abbrev rm_X1_harm : Room := { frames := 0, cells := 0, slots := 0, locals := 0 }
set_option maxHeartbeats 4000000 in
set_option maxRecDepth 100000 in
/-- harm(at) -/
theorem metX1_harm (l : Launch) (D : va_G) (dT : Nat → ClassId) (h0 ql qw qr : Nat) (lb : Nat → Int32) (w : Nat → Int64) (rb : Nat → Int32) (hm : Int32) (at9 : Int32) : ∀ sz : Nat, Met l yX1_harm (ws_ yX1_harm cX1_harm 3 (some .boolean)) rm_X1_harm (va_Pc [.ref h0, .int at9] (PCx D dT sz [(h0, .inr (0, [.ref ql, .ref qw, .ref qr, .int hm])), (ql, .inl (dT 0, 4, .inl lb)), (qw, .inl (dT 1, 24, .inr (.inl w))), (qr, .inl (dT 0, 4, .inl rb))])) (va_Qi (fun (r : Int32) (u : (Nat → Int64) × Int32) => (40 ≤ hm → r = 0 ∧ u.1 = w ∧ u.2 = hm) ∧ (¬ 40 ≤ hm → r = 1 ∧ u.2 = hm + 1 ∧ u.1 (kN at9 / 64) = w (kN at9 / 64) ^^^ flp (kN at9) ∧ ∀ j, j ≠ kN at9 / 64 → u.1 j = w j)) (BCx D (fun u : (Nat → Int64) × Int32 => [(h0, .inr (0, [.ref ql, .ref qw, .ref qr, .int u.2])), (ql, .inl (dT 0, 4, .inl lb)), (qw, .inl (dT 1, 24, .inr (.inl u.1))), (qr, .inl (dT 0, 4, .inl rb))]) (va_A [(h0, .inr (0, [.ref ql, .ref qw, .ref qr, .int hm])), (ql, .inl (dT 0, 4, .inl lb)), (qw, .inl (dT 1, 24, .inr (.inl w))), (qr, .inl (dT 0, 4, .inl rb))] sz)) (va_A [(h0, .inr (0, [.ref ql, .ref qw, .ref qr, .int hm])), (ql, .inl (dT 0, 4, .inl lb)), (qw, .inl (dT 1, 24, .inr (.inl w))), (qr, .inl (dT 0, 4, .inl rb))] sz)) 0 0 (va_A [(h0, .inr (0, [.ref ql, .ref qw, .ref qr, .int hm])), (ql, .inl (dT 0, 4, .inl lb)), (qw, .inl (dT 1, 24, .inr (.inl w))), (qr, .inl (dT 0, 4, .inl rb))] sz) := by
  refine mt_of (Qc := fun A => (va_Qi (fun (r : Int32) (u : (Nat → Int64) × Int32) => (40 ≤ hm → r = 0 ∧ u.1 = w ∧ u.2 = hm) ∧ (¬ 40 ≤ hm → r = 1 ∧ u.2 = hm + 1 ∧ u.1 (kN at9 / 64) = w (kN at9 / 64) ^^^ flp (kN at9) ∧ ∀ j, j ≠ kN at9 / 64 → u.1 j = w j)) (BCx D (fun u : (Nat → Int64) × Int32 => [(h0, .inr (0, [.ref ql, .ref qw, .ref qr, .int u.2])), (ql, .inl (dT 0, 4, .inl lb)), (qw, .inl (dT 1, 24, .inr (.inl u.1))), (qr, .inl (dT 0, 4, .inl rb))]) A) A)) (mc := 0) (ms := 0) (by decide) (Nat.le_of_ble_eq_true rfl) ?_
  intro p e s m args below meth c hx hb hr hlocks hml hts hown hnm A hA H locs hP hD hK hS ls hl Q hQ
  have hown : s.vm.findClass RX1 = some m.cls := hown
  have hl : lv_has ls 3 [(0, .ref h0), (1, .int at9)] := hl
  refine lv_aload_n hx hb dX1_harm_0 rfl (lv_at hl 0 rfl) ?_
  refine va_get (D := D) (ci := 0) (v := .int hm) (C := RX1) (T := TX1) (N := 4) hx hb hts in_X1 hown hK hP 0 rfl rfl 3 (by decide) (hts _ q17) (fun _ h9 => h9) rfl dX1_harm_1 ?_
  refine lv_bipush (v := 40) hx hb dX1_harm_4 (by decide) ?_
  refine lv_icmp_lt (tgt := 11) hx hb dX1_harm_6 (by decide) (fun c6 => ?_) (fun c6 => ?_)
  · have hlt : ¬ 40 ≤ hm := Int32.not_le.mpr c6
    refine lv_iload_n hx hb dX1_harm_11 rfl (lv_at hl 1 rfl) ?_
    refine lv_ldc hx hb hown (hts _ q33) dX1_harm_12 ?_
    refine lv_iand hx hb dX1_harm_14 ?_
    refine lv_aload_n hx hb dX1_harm_15 rfl (lv_at hl 0 rfl) ?_
    refine va_get (D := D) (ci := 0) (v := .ref qw) (C := RX1) (T := TX1) (N := 4) hx hb hts in_X1 hown hK hP 0 rfl rfl 1 (by decide) (hts _ q15) (fun _ h9 => h9) rfl dX1_harm_16 ?_
    refine va_alen (v := 24) hx hb hK hP 2 1 rfl rfl rfl dX1_harm_19 ?_
    refine lv_bipush (v := 64) hx hb dX1_harm_20 (by decide) ?_
    refine lv_imul hx hb dX1_harm_22 ?_
    refine lv_irem hx hb dX1_harm_23 (by decide) ?_
    refine lv_topi (fun x2 ex2 => ?_)
    refine lv_istore_n (lv' := [(2, .int x2), (0, .ref h0), (1, .int at9)]) hx hb dX1_harm_24 rfl hl (by decide) rfl (fun ls hl => ?_)
    have hx2 : x2 = nI (kN at9) := by rw [ex2]; exact kN_rem at9 rfl rfl
    have hk := kN_lt at9
    have m6 : x2 >>> ((6 : Int32) &&& 31) = nI (kN at9 / 64) := by rw [hx2]; exact pk_shrN (by omega) _ 6 (by decide)
    have m63 : x2 &&& 63 = nI (kN at9 % 64) := by rw [hx2]; exact pk_andN (by omega) 6 (by decide)
    refine lv_aload_n hx hb dX1_harm_25 rfl (lv_at hl 1 rfl) ?_
    refine va_get (D := D) (ci := 0) (v := .ref qw) (C := RX1) (T := TX1) (N := 4) hx hb hts in_X1 hown hK hP 0 rfl rfl 1 (by decide) (hts _ q15) (fun _ h9 => h9) rfl dX1_harm_26 ?_
    refine lv_iload_n hx hb dX1_harm_29 rfl (lv_at hl 0 rfl) ?_
    refine lv_bipush (v := 6) hx hb dX1_harm_30 (by decide) ?_
    refine lv_ishr hx hb dX1_harm_32 ?_
    refine lv_topi (fun ix eix => ?_)
    rw [m6] at eix
    refine lv_dup2_11 hx hb dX1_harm_33 rfl rfl ?_
    refine va_lald hx hb hK hP 2 1 rfl rfl (vin eix (by omega) (by decide)) dX1_harm_34 ?_
    refine lv_lconst (v := 1) hx hb dX1_harm_35 (by decide) ?_
    refine lv_iload_n hx hb dX1_harm_36 rfl (lv_at hl 0 rfl) ?_
    refine lv_bipush (v := 63) hx hb dX1_harm_37 (by decide) ?_
    refine lv_iand hx hb dX1_harm_39 ?_
    refine lv_lshl hx hb dX1_harm_40 rfl ?_
    refine lv_lxor hx hb dX1_harm_41 ?_
    refine va_last hx hb hK hP hD hS 2 1 rfl rfl (vin eix (by omega) (by decide)) dX1_harm_42 (fun H locs hP hD hS => ?_)
    obtain ⟨u1, eu1⟩ : ∃ g : Nat → Int64, g = vp_updL w (ix : Int32).toNatClampNeg ((w ix.toNatClampNeg) ^^^ (1 <<< (((x2 &&& 63) : Int32).toInt64 &&& 63))) := ⟨_, rfl⟩
    have hP : va_P D vwCl [(h0, .inr (0, [.ref ql, .ref qw, .ref qr, .int hm])), (ql, .inl (dT 0, 4, .inl lb)), (qw, .inl (dT 1, 24, .inr (.inl u1))), (qr, .inl (dT 0, 4, .inl rb))] H := by rw [eu1]; exact hP
    have hD : va_D A [(h0, .inr (0, [.ref ql, .ref qw, .ref qr, .int hm])), (ql, .inl (dT 0, 4, .inl lb)), (qw, .inl (dT 1, 24, .inr (.inl u1))), (qr, .inl (dT 0, 4, .inl rb))] := by rw [eu1]; exact hD
    refine lv_aload_n hx hb dX1_harm_43 rfl (lv_at hl 1 rfl) ?_
    refine lv_dup hx hb dX1_harm_44 rfl ?_
    refine va_get (D := D) (ci := 0) (v := .int hm) (C := RX1) (T := TX1) (N := 4) hx hb hts in_X1 hown hK hP 0 rfl rfl 3 (by decide) (hts _ q17) (fun _ h9 => h9) rfl dX1_harm_45 ?_
    refine lv_iconst (v := 1) hx hb dX1_harm_48 (by decide) ?_
    refine lv_iadd hx hb dX1_harm_49 ?_
    refine lv_topi (fun hm1 ehm1 => ?_)
    refine va_put (D := D) (ci := 0) (v := .int hm1) (ty := .int) (C := RX1) (T := TX1) (N := 4) hx hb hts in_X1 tyX1 tyX1_ok nmX1 hown hK hP hD hS 0 rfl rfl 3 (by decide) (hts _ q17) (fun _ h9 => h9) rfl (by decide +kernel) rfl rfl (Nat.le_of_ble_eq_true rfl) dX1_harm_50 (fun H locs hP hD hS => ?_)
    have hP : va_P D vwCl [(h0, .inr (0, [.ref ql, .ref qw, .ref qr, .int hm1])), (ql, .inl (dT 0, 4, .inl lb)), (qw, .inl (dT 1, 24, .inr (.inl u1))), (qr, .inl (dT 0, 4, .inl rb))] H := hP
    have hD : va_D A [(h0, .inr (0, [.ref ql, .ref qw, .ref qr, .int hm1])), (ql, .inl (dT 0, 4, .inl lb)), (qw, .inl (dT 1, 24, .inr (.inl u1))), (qr, .inl (dT 0, 4, .inl rb))] := hD
    refine lv_iconst (v := 1) hx hb dX1_harm_53 (by decide) ?_
    rw [cln eix (by omega), m63] at eu1
    rw [hQ]
    exact rt_z hx hb hr hlocks (Or.inr rfl) (u1, hm1) ⟨fun h => absurd h hlt, fun _ => ⟨rfl, ehm1, updL_at eu1 rfl, fun j hj => updL_ne eu1 hj⟩⟩ hP hD hS (Nat.le_refl _) (Nat.le_refl _) dX1_harm_54
  · have hge : 40 ≤ hm := Int32.not_lt.mp c6
    refine lv_iconst (v := 0) hx hb dX1_harm_9 (by decide) ?_
    rw [hQ]
    exact rt_z hx hb hr hlocks (Or.inl rfl) (w, hm) ⟨fun _ => ⟨rfl, rfl, rfl⟩, fun h => absurd hge h⟩ hP hD hS (Nat.le_refl _) (Nat.le_refl _) dX1_harm_10
abbrev rm_X1_bit : Room := { frames := 0, cells := 0, slots := 0, locals := 0 }
set_option maxHeartbeats 4000000 in
set_option maxRecDepth 100000 in
/-- bit(at) -/
theorem metX1_bit (l : Launch) (D : va_G) (dT : Nat → ClassId) (h0 ql qw qr : Nat) (lb : Nat → Int32) (w : Nat → Int64) (rb : Nat → Int32) (hm : Int32) (at9 : Int32) : ∀ sz : Nat, Met l yX1_bit (ws_ yX1_bit cX1_bit 3 (some .int)) rm_X1_bit (va_Pc [.ref h0, .int at9] (PCx D dT sz [(h0, .inr (0, [.ref ql, .ref qw, .ref qr, .int hm])), (ql, .inl (dT 0, 4, .inl lb)), (qw, .inl (dT 1, 24, .inr (.inl w))), (qr, .inl (dT 0, 4, .inl rb))])) (va_Qi (fun (r : Int32) (u : Unit) => r = biI w (kN at9)) (BCx D (fun u : Unit => [(h0, .inr (0, [.ref ql, .ref qw, .ref qr, .int hm])), (ql, .inl (dT 0, 4, .inl lb)), (qw, .inl (dT 1, 24, .inr (.inl w))), (qr, .inl (dT 0, 4, .inl rb))]) (va_A [(h0, .inr (0, [.ref ql, .ref qw, .ref qr, .int hm])), (ql, .inl (dT 0, 4, .inl lb)), (qw, .inl (dT 1, 24, .inr (.inl w))), (qr, .inl (dT 0, 4, .inl rb))] sz)) (va_A [(h0, .inr (0, [.ref ql, .ref qw, .ref qr, .int hm])), (ql, .inl (dT 0, 4, .inl lb)), (qw, .inl (dT 1, 24, .inr (.inl w))), (qr, .inl (dT 0, 4, .inl rb))] sz)) 0 0 (va_A [(h0, .inr (0, [.ref ql, .ref qw, .ref qr, .int hm])), (ql, .inl (dT 0, 4, .inl lb)), (qw, .inl (dT 1, 24, .inr (.inl w))), (qr, .inl (dT 0, 4, .inl rb))] sz) := by
  refine mt_of (Qc := fun A => (va_Qi (fun (r : Int32) (u : Unit) => r = biI w (kN at9)) (BCx D (fun u : Unit => [(h0, .inr (0, [.ref ql, .ref qw, .ref qr, .int hm])), (ql, .inl (dT 0, 4, .inl lb)), (qw, .inl (dT 1, 24, .inr (.inl w))), (qr, .inl (dT 0, 4, .inl rb))]) A) A)) (mc := 0) (ms := 0) (by decide) (Nat.le_of_ble_eq_true rfl) ?_
  intro p e s m args below meth c hx hb hr hlocks hml hts hown hnm A hA H locs hP hD hK hS ls hl Q hQ
  have hown : s.vm.findClass RX1 = some m.cls := hown
  have hl : lv_has ls 3 [(0, .ref h0), (1, .int at9)] := hl
  refine lv_iload_n hx hb dX1_bit_0 rfl (lv_at hl 1 rfl) ?_
  refine lv_ldc hx hb hown (hts _ q33) dX1_bit_1 ?_
  refine lv_iand hx hb dX1_bit_3 ?_
  refine lv_aload_n hx hb dX1_bit_4 rfl (lv_at hl 0 rfl) ?_
  refine va_get (D := D) (ci := 0) (v := .ref qw) (C := RX1) (T := TX1) (N := 4) hx hb hts in_X1 hown hK hP 0 rfl rfl 1 (by decide) (hts _ q15) (fun _ h9 => h9) rfl dX1_bit_5 ?_
  refine va_alen (v := 24) hx hb hK hP 2 1 rfl rfl rfl dX1_bit_8 ?_
  refine lv_bipush (v := 64) hx hb dX1_bit_9 (by decide) ?_
  refine lv_imul hx hb dX1_bit_11 ?_
  refine lv_irem hx hb dX1_bit_12 (by decide) ?_
  refine lv_topi (fun x2 ex2 => ?_)
  refine lv_istore_n (lv' := [(2, .int x2), (0, .ref h0), (1, .int at9)]) hx hb dX1_bit_13 rfl hl (by decide) rfl (fun ls hl => ?_)
  have hx2 : x2 = nI (kN at9) := by rw [ex2]; exact kN_rem at9 rfl rfl
  have hk := kN_lt at9
  have m6 : x2 >>> ((6 : Int32) &&& 31) = nI (kN at9 / 64) := by rw [hx2]; exact pk_shrN (by omega) _ 6 (by decide)
  have m63 : x2 &&& 63 = nI (kN at9 % 64) := by rw [hx2]; exact pk_andN (by omega) 6 (by decide)
  refine lv_aload_n hx hb dX1_bit_14 rfl (lv_at hl 1 rfl) ?_
  refine va_get (D := D) (ci := 0) (v := .ref qw) (C := RX1) (T := TX1) (N := 4) hx hb hts in_X1 hown hK hP 0 rfl rfl 1 (by decide) (hts _ q15) (fun _ h9 => h9) rfl dX1_bit_15 ?_
  refine lv_iload_n hx hb dX1_bit_18 rfl (lv_at hl 0 rfl) ?_
  refine lv_bipush (v := 6) hx hb dX1_bit_19 (by decide) ?_
  refine lv_ishr hx hb dX1_bit_21 ?_
  refine va_lald hx hb hK hP 2 1 rfl rfl (vin m6 (by omega) (by decide)) dX1_bit_22 ?_
  refine lv_iload_n hx hb dX1_bit_23 rfl (lv_at hl 0 rfl) ?_
  refine lv_bipush (v := 63) hx hb dX1_bit_24 (by decide) ?_
  refine lv_iand hx hb dX1_bit_26 ?_
  refine lv_lushr hx hb dX1_bit_27 rfl ?_
  refine lv_l2i hx hb dX1_bit_28 rfl ?_
  refine lv_iconst (v := 1) hx hb dX1_bit_29 (by decide) ?_
  refine lv_iand hx hb dX1_bit_30 ?_
  refine lv_topi (fun rr err => ?_)
  rw [cln m6 (by omega), m63] at err
  rw [hQ]
  exact rt_i hx hb hr hlocks () err hP hD hS (Nat.le_refl _) (Nat.le_refl _) dX1_bit_31
abbrev rm_X1_read : Room := { frames := 3, cells := 4, slots := 328, locals := 100 }
set_option maxHeartbeats 4000000 in
set_option maxRecDepth 100000 in
/-- read() -/
theorem metX1_read (l : Launch) (D : va_G) (dT : Nat → ClassId) (h0 ql qw qr : Nat) (lb : Nat → Int32) (w : Nat → Int64) (rb : Nat → Int32) (hm : Int32) : ∀ sz : Nat, Met l yX1_read (ws_ yX1_read cX1_read 4 (some .int)) rm_X1_read (va_Pc [.ref h0] (PCx D dT sz [(h0, .inr (0, [.ref ql, .ref qw, .ref qr, .int hm])), (ql, .inl (dT 0, 4, .inl lb)), (qw, .inl (dT 1, 24, .inr (.inl w))), (qr, .inl (dT 0, 4, .inl rb))])) (va_Qi (fun (r : Int32) (u : Nat → Int32) => r = rdz u 4 ∧ ∀ i, i < 4 → u i = dcl w i) (BCx D (fun u : Nat → Int32 => [(h0, .inr (0, [.ref ql, .ref qw, .ref qr, .int hm])), (ql, .inl (dT 0, 4, .inl lb)), (qw, .inl (dT 1, 24, .inr (.inl w))), (qr, .inl (dT 0, 4, .inl u))]) (va_A [(h0, .inr (0, [.ref ql, .ref qw, .ref qr, .int hm])), (ql, .inl (dT 0, 4, .inl lb)), (qw, .inl (dT 1, 24, .inr (.inl w))), (qr, .inl (dT 0, 4, .inl rb))] sz)) (va_A [(h0, .inr (0, [.ref ql, .ref qw, .ref qr, .int hm])), (ql, .inl (dT 0, 4, .inl lb)), (qw, .inl (dT 1, 24, .inr (.inl w))), (qr, .inl (dT 0, 4, .inl rb))] sz)) 4 328 (va_A [(h0, .inr (0, [.ref ql, .ref qw, .ref qr, .int hm])), (ql, .inl (dT 0, 4, .inl lb)), (qw, .inl (dT 1, 24, .inr (.inl w))), (qr, .inl (dT 0, 4, .inl rb))] sz) := by
  refine mt_of (Qc := fun A => (va_Qi (fun (r : Int32) (u : Nat → Int32) => r = rdz u 4 ∧ ∀ i, i < 4 → u i = dcl w i) (BCx D (fun u : Nat → Int32 => [(h0, .inr (0, [.ref ql, .ref qw, .ref qr, .int hm])), (ql, .inl (dT 0, 4, .inl lb)), (qw, .inl (dT 1, 24, .inr (.inl w))), (qr, .inl (dT 0, 4, .inl u))]) A) A)) (mc := 4) (ms := 328) (by decide) (Nat.le_of_ble_eq_true rfl) ?_
  intro p e s m args below meth c hx hb hr hlocks hml hts hown hnm A hA H locs hP hD hK hS ls hl Q hQ
  have hown : s.vm.findClass RX1 = some m.cls := hown
  have hl : lv_has ls 4 [(0, .ref h0)] := hl
  refine lv_aload_n hx hb dX1_read_0 rfl (lv_at hl 0 rfl) ?_
  refine va_get (D := D) (ci := 0) (v := .ref qw) (C := RX1) (T := TX1) (N := 4) hx hb hts in_X1 hown hK hP 0 rfl rfl 1 (by decide) (hts _ q15) (fun _ h9 => h9) rfl dX1_read_1 ?_
  refine va_alen (v := 24) hx hb hK hP 2 1 rfl rfl rfl dX1_read_4 ?_
  refine nw_l (N := 24) hx hb hts hK hP hD hS hA (by decide) (by decide) (Nat.le_of_ble_eq_true rfl) (Nat.le_of_ble_eq_true rfl) (Nat.le_of_ble_eq_true rfl) dX1_read_5 (fun n1 H hP hD hS => ?_)
  have hP : va_P D vwCl [(h0, .inr (0, [.ref ql, .ref qw, .ref qr, .int hm])), (ql, .inl (dT 0, 4, .inl lb)), (qw, .inl (dT 1, 24, .inr (.inl w))), (qr, .inl (dT 0, 4, .inl rb)), (n1, .inl (dT 1, 24, .inr (.inl (fun _ => 0))))] H := hP
  have hD : va_D A [(h0, .inr (0, [.ref ql, .ref qw, .ref qr, .int hm])), (ql, .inl (dT 0, 4, .inl lb)), (qw, .inl (dT 1, 24, .inr (.inl w))), (qr, .inl (dT 0, 4, .inl rb)), (n1, .inl (dT 1, 24, .inr (.inl (fun _ => 0))))] := hD
  refine lv_astore_n (lv' := [(1, .ref n1), (0, .ref h0)]) hx hb dX1_read_7 rfl hl (by decide) rfl (fun ls hl => ?_)
  refine lv_iconst (v := 0) hx hb dX1_read_8 (by decide) ?_
  refine lv_istore_n (lv' := [(2, .int 0), (1, .ref n1), (0, .ref h0)]) hx hb dX1_read_9 rfl hl (by decide) rfl (fun ls hl => ?_)
  have outer : ∀ (n : Nat) (i : Nat) (x2 : Int32) (v : Nat → Int64) (H : Heap) (locs : List Loc) (ls : Array Slot), i ≤ 24 → 25 ≤ i + n → x2 = nI i → (∀ k, k < i → v k = w k) → va_P D vwCl [(h0, .inr (0, [.ref ql, .ref qw, .ref qr, .int hm])), (ql, .inl (dT 0, 4, .inl lb)), (qw, .inl (dT 1, 24, .inr (.inl w))), (qr, .inl (dT 0, 4, .inl rb)), (n1, .inl (dT 1, 24, .inr (.inl v)))] H → va_D A [(h0, .inr (0, [.ref ql, .ref qw, .ref qr, .int hm])), (ql, .inl (dT 0, 4, .inl lb)), (qw, .inl (dT 1, 24, .inr (.inl w))), (qr, .inl (dT 0, 4, .inl rb)), (n1, .inl (dT 1, 24, .inr (.inl v)))] → va_S A s.heap H locs → lv_has ls 4 [(0, .ref h0), (1, .ref n1), (2, .int x2)] → W p l e rm_X1_read s m args below meth c H locs 1 24 Q (F0 m 10 ls []) := by
    intro n
    induction n with
    | zero =>
      intro i x2 v H locs ls h1 h2 h3 h4
      exact absurd h2 (by omega)
    | succ n ih =>
      intro i x2 v H locs ls h1 h2 h3 h4 hP hD hS hl
      refine lv_iload_n hx hb dX1_read_10 rfl (lv_at hl 2 rfl) ?_
      refine lv_aload_n hx hb dX1_read_11 rfl (lv_at hl 1 rfl) ?_
      refine va_alen (v := 24) hx hb hK hP 4 1 rfl rfl rfl dX1_read_12 ?_
      refine lv_icmp_ge (tgt := 31) hx hb dX1_read_13 (by decide) (fun c13 => ?_) (fun c13 => ?_)
      · have hi : i = 24 := by have := ge_t c13 h3 (show (24 : Int32) = nI 24 from rfl) (by omega) (by omega); omega
        subst hi
        refine lv_aload_n hx hb dX1_read_31 rfl (lv_at hl 0 rfl) ?_
        refine va_get (D := D) (ci := 0) (v := .ref qr) (C := RX1) (T := TX1) (N := 4) hx hb hts in_X1 hown hK hP 0 rfl rfl 2 (by decide) (hts _ q16) (fun _ h9 => h9) rfl dX1_read_32 ?_
        refine lv_aload_n hx hb dX1_read_35 rfl (lv_at hl 1 rfl) ?_
        refine lv_iconst (v := 4) hx hb dX1_read_36 (by decide) ?_
        refine lv_iconst (v := 3) hx hb dX1_read_37 (by decide) ?_
        refine cl_Sv (As := [.ref qr, .ref n1, .int 4, .int 3]) (rest := []) (wr := [(h0, .inr (0, [.ref ql, .ref qw, .ref qr, .int hm])), (ql, .inl (dT 0, 4, .inl lb)), (qw, .inl (dT 1, 24, .inr (.inl w)))]) (met_decode l D dT qr n1 rb v) ⟨hx, hb, hml, hown, hts⟩ (va_cwS 4 hts (lw_S q111 q112 q3 q113) rfl rfl rfl (by decide +kernel) ⟨Nat.le_of_ble_eq_true rfl, Nat.le_of_ble_eq_true rfl⟩) hP hD hS hK hA [3, 4] [0, 1, 2] rfl rfl rfl rfl (by decide) rfl hl.1 rfl (Nat.le_of_ble_eq_true rfl) dX1_read_38 ⟨Nat.le_of_ble_eq_true rfl, Nat.le_of_ble_eq_true rfl⟩ (fun u H locs hu hP hD hS => ?_)
        have hP : va_P D vwCl [(h0, .inr (0, [.ref ql, .ref qw, .ref qr, .int hm])), (ql, .inl (dT 0, 4, .inl lb)), (qw, .inl (dT 1, 24, .inr (.inl w))), (qr, .inl (dT 0, 4, .inl u)), (n1, .inl (dT 1, 24, .inr (.inl v)))] H := hP
        have hD : va_D A [(h0, .inr (0, [.ref ql, .ref qw, .ref qr, .int hm])), (ql, .inl (dT 0, 4, .inl lb)), (qw, .inl (dT 1, 24, .inr (.inl w))), (qr, .inl (dT 0, 4, .inl u)), (n1, .inl (dT 1, 24, .inr (.inl v)))] := hD
        refine lv_iconst (v := 0) hx hb dX1_read_41 (by decide) ?_
        refine lv_istore_n (lv' := [(2, .int 0), (0, .ref h0), (1, .ref n1)]) hx hb dX1_read_42 rfl hl (by decide) rfl (fun ls hl => ?_)
        refine lv_iconst (v := 0) hx hb dX1_read_43 (by decide) ?_
        refine lv_istore_n (lv' := [(3, .int 0), (2, .int 0), (0, .ref h0), (1, .ref n1)]) hx hb dX1_read_44 rfl hl (by decide) rfl (fun ls hl => ?_)
        have hu2 : ∀ i, i < 4 → u i = dcl w i := fun i hi => (hu i hi).trans (dcl_congr h4 i hi)
        have pack : ∀ (n : Nat) (j : Nat) (x2 x3 : Int32) (H : Heap) (locs : List Loc) (ls : Array Slot), j ≤ 4 → 5 ≤ j + n → x3 = nI j → x2 = rdz u j → va_P D vwCl [(h0, .inr (0, [.ref ql, .ref qw, .ref qr, .int hm])), (ql, .inl (dT 0, 4, .inl lb)), (qw, .inl (dT 1, 24, .inr (.inl w))), (qr, .inl (dT 0, 4, .inl u))] H → va_D A [(h0, .inr (0, [.ref ql, .ref qw, .ref qr, .int hm])), (ql, .inl (dT 0, 4, .inl lb)), (qw, .inl (dT 1, 24, .inr (.inl w))), (qr, .inl (dT 0, 4, .inl u))] → va_S A s.heap H locs → lv_has ls 4 [(0, .ref h0), (2, .int x2), (3, .int x3)] → W p l e rm_X1_read s m args below meth c H locs 4 328 Q (F0 m 45 ls []) := by
          intro n
          induction n with
          | zero =>
            intro j x2 x3 H locs ls g1 g2 g3 g4
            exact absurd g2 (by omega)
          | succ n jh =>
            intro j x2 x3 H locs ls g1 g2 g3 g4 hP hD hS hl
            refine lv_iload_n hx hb dX1_read_45 rfl (lv_at hl 2 rfl) ?_
            refine lv_iconst (v := 4) hx hb dX1_read_46 (by decide) ?_
            refine lv_icmp_ge (tgt := 72) hx hb dX1_read_47 (by decide) (fun c47 => ?_) (fun c47 => ?_)
            · have hj : j = 4 := by have := ge_t c47 g3 (show (4 : Int32) = nI 4 from rfl) (by omega) (by omega); omega
              subst hj
              refine lv_iload_n hx hb dX1_read_72 rfl (lv_at hl 1 rfl) ?_
              rw [hQ]
              exact rt_i hx hb hr hlocks u ⟨g4, hu2⟩ hP hD hS (Nat.le_of_ble_eq_true rfl) (Nat.le_of_ble_eq_true rfl) dX1_read_73
            · have hj : j < 4 := ge_f c47 g3 (show (4 : Int32) = nI 4 from rfl) (by omega) (by omega)
              refine lv_iload_n hx hb dX1_read_50 rfl (lv_at hl 1 rfl) ?_
              refine lv_bipush (v := 8) hx hb dX1_read_51 (by decide) ?_
              refine lv_ishl hx hb dX1_read_53 ?_
              refine lv_aload_n hx hb dX1_read_54 rfl (lv_at hl 0 rfl) ?_
              refine va_get (D := D) (ci := 0) (v := .ref qr) (C := RX1) (T := TX1) (N := 4) hx hb hts in_X1 hown hK hP 0 rfl rfl 2 (by decide) (hts _ q16) (fun _ h9 => h9) rfl dX1_read_55 ?_
              refine lv_iload_n hx hb dX1_read_58 rfl (lv_at hl 2 rfl) ?_
              refine va_bald hx hb hK hP 3 0 rfl rfl (vin g3 hj (by decide)) dX1_read_59 ?_
              refine lv_sipush (v := 255) hx hb dX1_read_60 (by decide) ?_
              refine lv_iand hx hb dX1_read_63 ?_
              refine lv_ior hx hb dX1_read_64 ?_
              refine lv_topi (fun x2b ex2b => ?_)
              refine lv_istore_n (lv' := [(2, .int x2b), (0, .ref h0), (3, .int x3)]) hx hb dX1_read_65 rfl hl (by decide) rfl (fun ls hl => ?_)
              obtain ⟨x3b, ex3b⟩ : ∃ y : Int32, y = x3 + 1 := ⟨_, rfl⟩
              refine lv_iinc (v := x3b) (lv' := [(3, .int x3b), (2, .int x2b), (0, .ref h0)]) hx hb dX1_read_66 hl (k := 2) rfl (by rw [ex3b]; rfl) (by decide) rfl (fun ls hl => ?_)
              refine lv_goto (tgt := 45) hx hb dX1_read_69 (by decide) ?_
              rw [cln g3 (by omega), g4] at ex2b
              exact jh (j + 1) x2b x3b _ _ _ (by omega) (by omega) (by rw [ex3b]; exact ad1 g3) ex2b hP hD hS (lv_sub hl [2, 1, 0] rfl)
        exact pack 5 0 0 0 _ _ _ (by omega) (by omega) rfl rfl (hP.sub [0, 1, 2, 3] rfl) (hD.sub [0, 1, 2, 3] (by decide) rfl) hS (lv_sub hl [2, 1, 0] rfl)
      · have hi : i < 24 := ge_f c13 h3 (show (24 : Int32) = nI 24 from rfl) (by omega) (by omega)
        refine lv_aload_n hx hb dX1_read_16 rfl (lv_at hl 1 rfl) ?_
        refine lv_iload_n hx hb dX1_read_17 rfl (lv_at hl 2 rfl) ?_
        refine lv_aload_n hx hb dX1_read_18 rfl (lv_at hl 0 rfl) ?_
        refine va_get (D := D) (ci := 0) (v := .ref qw) (C := RX1) (T := TX1) (N := 4) hx hb hts in_X1 hown hK hP 0 rfl rfl 1 (by decide) (hts _ q15) (fun _ h9 => h9) rfl dX1_read_19 ?_
        refine lv_iload_n hx hb dX1_read_22 rfl (lv_at hl 2 rfl) ?_
        refine va_lald hx hb hK hP 2 1 rfl rfl (vin h3 hi (by decide)) dX1_read_23 ?_
        refine va_last hx hb hK hP hD hS 4 1 rfl rfl (vin h3 hi (by decide)) dX1_read_24 (fun H locs hP hD hS => ?_)
        obtain ⟨v1, ev1⟩ : ∃ g : Nat → Int64, g = vp_updL v (x2 : Int32).toNatClampNeg (w x2.toNatClampNeg) := ⟨_, rfl⟩
        have hP : va_P D vwCl [(h0, .inr (0, [.ref ql, .ref qw, .ref qr, .int hm])), (ql, .inl (dT 0, 4, .inl lb)), (qw, .inl (dT 1, 24, .inr (.inl w))), (qr, .inl (dT 0, 4, .inl rb)), (n1, .inl (dT 1, 24, .inr (.inl v1)))] H := by rw [ev1]; exact hP
        have hD : va_D A [(h0, .inr (0, [.ref ql, .ref qw, .ref qr, .int hm])), (ql, .inl (dT 0, 4, .inl lb)), (qw, .inl (dT 1, 24, .inr (.inl w))), (qr, .inl (dT 0, 4, .inl rb)), (n1, .inl (dT 1, 24, .inr (.inl v1)))] := by rw [ev1]; exact hD
        obtain ⟨x2b, ex2b⟩ : ∃ y : Int32, y = x2 + 1 := ⟨_, rfl⟩
        refine lv_iinc (v := x2b) (lv' := [(2, .int x2b), (0, .ref h0), (1, .ref n1)]) hx hb dX1_read_25 hl (k := 2) rfl (by rw [ex2b]; rfl) (by decide) rfl (fun ls hl => ?_)
        refine lv_goto (tgt := 10) hx hb dX1_read_28 (by decide) ?_
        rw [cln h3 (by omega)] at ev1
        have hN : ∀ k, k < i + 1 → v1 k = w k := by
          intro k hk
          by_cases k1 : k = i
          · rw [updL_at ev1 k1, k1]
          · rw [updL_ne ev1 k1]
            exact h4 k (by omega)
        exact ih (i + 1) x2b v1 _ _ _ (by omega) (by omega) (by rw [ex2b]; exact ad1 h3) hN hP hD hS (lv_sub hl [1, 2, 0] rfl)
  exact outer 25 0 0 (fun _ => 0) _ _ _ (by omega) (by omega) rfl (fun k hk => absurd hk (by omega)) hP hD hS (lv_sub hl [2, 1, 0] rfl)
end
section
/-! ===== Int32 by its bits: bt x i ===== -/
def bt (x : Int32) (i : Nat) : Bool := x.toBitVec.getLsbD i
theorem b_ext {x y : Int32} (h : ∀ i, i < 32 → bt x i = bt y i) : x = y := Int32.toBitVec_inj.mp (BitVec.eq_of_getLsbD_eq (fun i hi => h i hi))
theorem b_or (x y : Int32) (i : Nat) : bt (x ||| y) i = (bt x i || bt y i) := by unfold bt; rw [Int32.toBitVec_or, BitVec.getLsbD_or]
theorem b_and (x y : Int32) (i : Nat) : bt (x &&& y) i = (bt x i && bt y i) := by unfold bt; rw [Int32.toBitVec_and, BitVec.getLsbD_and]
theorem b_xor (x y : Int32) (i : Nat) : bt (x ^^^ y) i = (bt x i ^^ bt y i) := by unfold bt; rw [Int32.toBitVec_xor, BitVec.getLsbD_xor]
theorem b_big {x : Int32} {i : Nat} (h : 32 ≤ i) : bt x i = false := BitVec.getLsbD_of_ge _ _ h
theorem b_255 (i : Nat) : bt 255 i = decide (i < 8) := by
  rcases Nat.lt_or_ge i 32 with h | h
  · exact (by decide +kernel : ∀ i, i < 32 → bt 255 i = decide (i < 8)) i h
  · rw [b_big h, decide_eq_false (by omega)]
theorem b_65535 (i : Nat) : bt 65535 i = decide (i < 16) := by
  rcases Nat.lt_or_ge i 32 with h | h
  · exact (by decide +kernel : ∀ i, i < 32 → bt 65535 i = decide (i < 16)) i h
  · rw [b_big h, decide_eq_false (by omega)]
theorem b_m1 : ∀ i, i < 32 → bt (-1) i = true := by decide +kernel
theorem b_0 (i : Nat) : bt 0 i = false := BitVec.getLsbD_zero
theorem s_l : ∀ n, n < 32 → ((nI n &&& 31).toBitVec.smod 32).toNat = n := by decide +kernel
theorem s_u : ∀ n, n < 32 → (((nI n).toUInt32 &&& Int32.toUInt32 31).toBitVec % 32).toNat = n := by decide +kernel
theorem b_shl (n : Nat) (hn : n < 32) (x : Int32) {i : Nat} (hi : i < 32) : bt (x <<< (nI n &&& 31)) i = (decide (n ≤ i) && bt x (i - n)) := by
  unfold bt
  rw [Int32.toBitVec_shiftLeft]
  show (x.toBitVec <<< ((nI n &&& 31).toBitVec.smod 32).toNat).getLsbD i = _
  rw [s_l n hn, BitVec.getLsbD_shiftLeft]
  rcases Nat.lt_or_ge i n with h | h
  · simp [h, Nat.not_le.mpr h]
  · simp [hi, h, Nat.not_lt.mpr h]
theorem b_ushr (n : Nat) (hn : n < 32) (x : Int32) (i : Nat) : bt ((x.toUInt32 >>> ((nI n).toUInt32 &&& Int32.toUInt32 31)).toInt32) i = bt x (n + i) := by
  show (x.toUInt32 >>> ((nI n).toUInt32 &&& Int32.toUInt32 31)).toBitVec.getLsbD i = x.toUInt32.toBitVec.getLsbD (n + i)
  rw [UInt32.toBitVec_shiftRight]
  show (x.toUInt32.toBitVec >>> (((nI n).toUInt32 &&& Int32.toUInt32 31).toBitVec % 32).toNat).getLsbD i = _
  rw [s_u n hn, BitVec.getLsbD_ushiftRight]
theorem b_sshr (n : Nat) (hn : n < 32) (x : Int32) {i : Nat} (hi : i < 32) : bt (x >>> (nI n &&& 31)) i = if n + i < 32 then bt x (n + i) else bt x 31 := by
  unfold bt
  rw [Int32.toBitVec_shiftRight]
  show (x.toBitVec.sshiftRight ((nI n &&& 31).toBitVec.smod 32).toNat).getLsbD i = _
  rw [s_l n hn, BitVec.getLsbD_sshiftRight, BitVec.msb_eq_getLsbD_last]
  simp [hi]
theorem b_shl8 (x : Int32) {i : Nat} (hi : i < 32) : bt (x <<< ((8 : Int32) &&& 31)) i = (decide (8 ≤ i) && bt x (i - 8)) := b_shl 8 (by omega) x hi
theorem b_shl16 (x : Int32) {i : Nat} (hi : i < 32) : bt (x <<< ((16 : Int32) &&& 31)) i = (decide (16 ≤ i) && bt x (i - 16)) := b_shl 16 (by omega) x hi
theorem b_shl24 (x : Int32) {i : Nat} (hi : i < 32) : bt (x <<< ((24 : Int32) &&& 31)) i = (decide (24 ≤ i) && bt x (i - 24)) := b_shl 24 (by omega) x hi
theorem b_sshr8 (x : Int32) {i : Nat} (hi : i < 32) : bt (x >>> ((8 : Int32) &&& 31)) i = if 8 + i < 32 then bt x (8 + i) else bt x 31 := b_sshr 8 (by omega) x hi
/-! ===== a byte read unsigned ===== -/
theorem bp_b (x : Int32) : x.toInt8.toInt32 &&& 255 = x &&& 255 := by
  apply Int32.toBitVec_inj.mp
  rw [Int32.toBitVec_and, Int32.toBitVec_and, Int8.toBitVec_toInt32, Int32.toBitVec_toInt8]
  apply BitVec.eq_of_getLsbD_eq
  intro i hi
  rw [BitVec.getLsbD_and, BitVec.getLsbD_and]
  have hm : ∀ i < 32, 8 ≤ i → (255 : Int32).toBitVec.getLsbD i = false := by decide
  rcases Nat.lt_or_ge i 8 with z | z
  · rw [BitVec.getLsbD_signExtend, BitVec.getLsbD_signExtend, if_pos z, if_pos hi]
    simp only [z, hi, decide_true, Bool.true_and]
  · rw [hm i hi z]; simp
/-! THE PLAIN LAW: what the desk's cells have to do with the law's own book-keeping -/
set_option maxRecDepth 100000
def bitB (w : Nat → Int64) (p : Nat) : Bool := (w (p / 64)).toBitVec.getLsbD (p % 64)
def dueBk (x : Int32) (j : Nat) : Nat → Bool
  | 0 => x.toBitVec.getLsbD 7
  | k + 1 => dueBk x j k ^^ (x.toBitVec.getLsbD k && j.testBit k)
def dueB (x : Int32) (j : Nat) : Bool := dueBk x j 7
def cnt (tn : Nat → Int32) : Nat → Nat
  | 0 => 0
  | n + 1 => cnt tn n + if tn n = 0 then 0 else 1
def Good (lb a wr tn : Nat → Int32) (w : Nat → Int64) (hm hh : Int32) (h : Nat) : Prop :=
  (∀ k, k < 4 → a k = lb k &&& 255) ∧ (∀ k, k < 4 → wr k &&& 255 = wr k) ∧ h ≤ 40 ∧ hm = nI h ∧ hh = nI h ∧ cnt tn 1536 ≤ h ∧ ∀ p, p < 1536 → bitB w p = (dueB (wr (p / 384)) (p % 128) ^^ decide (tn p ≠ 0))
def pkd (a : Nat → Int32) : Int32 := (((a 0 <<< ((24 : Int32) &&& 31)) ||| (a 1 <<< ((16 : Int32) &&& 31))) ||| (a 2 <<< ((8 : Int32) &&& 31))) ||| a 3
def tbt (wr tn : Nat → Int32) (p : Nat) : Int32 := duL (wr (p / 384)) (nI (p % 128)) 7 ^^^ (if tn p = 0 then 0 else 1)
variable {lb a wr tn lb' a' wr' tn' : Nat → Int32} {w w' : Nat → Int64} {hm hh : Int32} {h : Nat}
theorem n3_nI {i : Nat} (h : i < 4) : n3 (nI i) = i := by
  unfold n3
  rw [pk_tn (by omega)]
  omega
theorem kN_nI {i : Nat} (h : i < 1536) : kN (nI i) = i := by
  unfold kN
  rw [pk_tn (by omega)]
  omega

-- bits of longs
def bl (x : Int64) (i : Nat) : Bool := x.toBitVec.getLsbD i
theorem bl_or (x y : Int64) (i : Nat) : bl (x ||| y) i = (bl x i || bl y i) := by unfold bl; rw [Int64.toBitVec_or, BitVec.getLsbD_or]
theorem bl_and (x y : Int64) (i : Nat) : bl (x &&& y) i = (bl x i && bl y i) := by unfold bl; rw [Int64.toBitVec_and, BitVec.getLsbD_and]
theorem bl_xor (x y : Int64) (i : Nat) : bl (x ^^^ y) i = (bl x i ^^ bl y i) := by unfold bl; rw [Int64.toBitVec_xor, BitVec.getLsbD_xor]
theorem bl_0 (i : Nat) : bl 0 i = false := BitVec.getLsbD_zero
theorem bl_i2l (x : Int32) {i : Nat} (hi : i < 32) : bl x.toInt64 i = bt x i := by
  unfold bl bt
  rw [Int32.toBitVec_toInt64, BitVec.getLsbD_signExtend, if_pos hi]
  simp [show i < 64 by omega]
theorem bl_l2i (x : Int64) {i : Nat} (hi : i < 32) : bt x.toInt32 i = bl x i := by
  unfold bl bt
  rw [Int64.toBitVec_toInt32, BitVec.getLsbD_signExtend, if_pos (by omega)]
  simp [hi]
theorem bl_mask : ∀ i, i < 64 → bl 4294967295 i = decide (i < 32) := by decide +kernel
theorem bl_c32 : (((32 : Int32).toInt64 &&& 63).toBitVec.smod 64).toNat = 32 := by decide +kernel
theorem bl_shl (x : Int64) {i : Nat} (hi : i < 64) : bl (x <<< ((32 : Int32).toInt64 &&& 63)) i = (decide (32 ≤ i) && bl x (i - 32)) := by
  unfold bl
  rw [Int64.toBitVec_shiftLeft]
  show (x.toBitVec <<< (((32 : Int32).toInt64 &&& 63).toBitVec.smod 64).toNat).getLsbD i = _
  rw [bl_c32, BitVec.getLsbD_shiftLeft]
  rcases Nat.lt_or_ge i 32 with h | h
  · simp [h, Nat.not_le.mpr h]
  · simp [hi, h, Nat.not_lt.mpr h]
theorem bl_shr (x : Int64) {i : Nat} (hi : i < 32) : bl (x >>> ((32 : Int32).toInt64 &&& 63)) i = bl x (32 + i) := by
  unfold bl
  rw [Int64.toBitVec_shiftRight]
  show (x.toBitVec.sshiftRight (((32 : Int32).toInt64 &&& 63).toBitVec.smod 64).toNat).getLsbD i = _
  rw [bl_c32, BitVec.getLsbD_sshiftRight, if_pos (by omega)]
  simp [show i < 64 by omega]
theorem bl_flp : ∀ l, l < 64 → ((1 : Int64) <<< ((nI l).toInt64 &&& 63)).toBitVec = BitVec.twoPow 64 l := by decide +kernel
theorem bl_cu : ∀ k, k < 64 → (((nI k).toInt64.toUInt64 &&& Int64.toUInt64 63).toBitVec % 64).toNat = k := by decide +kernel
theorem i1 (x : Int32) : x &&& 1 = if bt x 0 = true then 1 else 0 := by
  apply Int32.toBitVec_inj.mp
  rw [Int32.toBitVec_and]
  show x.toBitVec &&& 1#32 = _
  rw [BitVec.and_one_eq_setWidth_ofBool_getLsbD]
  unfold bt
  cases x.toBitVec.getLsbD 0 <;> rfl
theorem ifx (a b : Bool) : ((if a = true then (1 : Int32) else 0) ^^^ (if b = true then 1 else 0)) = if (a ^^ b) = true then 1 else 0 := by
  cases a <;> cases b <;> rfl
theorem biI_bit (w : Nat → Int64) (p : Nat) : biI w p = if bitB w p = true then 1 else 0 := by
  unfold biI
  rw [i1]
  have e : bt (((w (p / 64)).toUInt64 >>> ((nI (p % 64)).toInt64.toUInt64 &&& Int64.toUInt64 63)).toInt64.toInt32) 0 = bitB w p := by
    rw [bl_l2i _ (by decide)]
    show ((w (p / 64)).toUInt64 >>> ((nI (p % 64)).toInt64.toUInt64 &&& Int64.toUInt64 63)).toBitVec.getLsbD 0 = (w (p / 64)).toUInt64.toBitVec.getLsbD (p % 64)
    rw [UInt64.toBitVec_shiftRight]
    show ((w (p / 64)).toUInt64.toBitVec >>> (((nI (p % 64)).toInt64.toUInt64 &&& Int64.toUInt64 63).toBitVec % 64).toNat).getLsbD 0 = _
    rw [bl_cu _ (Nat.mod_lt _ (by decide)), BitVec.getLsbD_ushiftRight, Nat.add_zero]
  rw [e]
theorem bt_nI {n i : Nat} (hi : i < 32) : bt (nI n) i = n.testBit i := by
  show (BitVec.ofNat 32 n).getLsbD i = _
  rw [BitVec.getLsbD_ofNat]
  simp [hi]
theorem hi255 {x : Int32} (h : x &&& 255 = x) {i : Nat} (hi : 8 ≤ i) : bt x i = false := by
  rw [← h, b_and, b_255, decide_eq_false (by omega), Bool.and_false]
theorem sh7 {x : Int32} (h : x &&& 255 = x) : x >>> ((7 : Int32) &&& 31) = if bt x 7 = true then 1 else 0 := by
  apply b_ext
  intro i hi
  have e := b_sshr 7 (by decide) x hi
  rw [show bt (x >>> ((7 : Int32) &&& 31)) i = _ from e]
  by_cases h0 : i = 0
  · subst h0
    rw [if_pos (by decide)]
    cases bt x (7 + 0) <;> rfl
  · have e2 : (if 7 + i < 32 then bt x (7 + i) else bt x 31) = false := by
      split
      · exact hi255 h (by omega)
      · exact hi255 h (by omega)
    rw [e2]
    have e3 : bt 1 i = false := by
      have h1 := (by decide +kernel : ∀ i, i < 32 → bt 1 i = decide (i = 0)) i hi
      rw [h1, decide_eq_false h0]
    cases bt x 7
    · exact (b_0 i).symm
    · exact e3.symm
theorem duL_bit {x : Int32} (h : x &&& 255 = x) {j : Nat} (hj : j < 128) : ∀ k, k < 32 → duL x (nI j) k = if dueBk x j k = true then 1 else 0
  | 0, _ => sh7 h
  | k + 1, hk => by
    show duL x (nI j) k ^^^ _ = _
    rw [duL_bit h hj k (by omega), i1, ifx]
    congr 1
    rw [b_and, b_sshr k (by omega) x (by decide), b_sshr k (by omega) (nI j) (by decide), if_pos (by omega), if_pos (by omega), Nat.add_zero, bt_nI (by omega)]
    rfl
theorem good_bit (G : Good lb a wr tn w hm hh h) {p : Nat} (hp : p < 1536) : biI w p = tbt wr tn p := by
  obtain ⟨-, g2, -, -, -, -, g7⟩ := G
  unfold tbt
  rw [biI_bit, g7 p hp, duL_bit (g2 _ (by omega)) (Nat.mod_lt _ (by decide)) 7 (by decide)]
  have e : (if tn p = 0 then (0 : Int32) else 1) = if decide (tn p ≠ 0) = true then 1 else 0 := by
    by_cases c : tn p = 0
    · simp [c]
    · simp [c]
  rw [e, ifx]
  rfl
theorem cnt_up {tn tn' : Nat → Int32} {k : Nat} {v : Int32} (e : tn' = upd tn k v) : ∀ n, (n ≤ k → cnt tn' n = cnt tn n) ∧ cnt tn' n ≤ cnt tn n + 1
  | 0 => ⟨fun _ => rfl, Nat.zero_le _⟩
  | n + 1 => by
    obtain ⟨h1, h2⟩ := cnt_up e n
    by_cases hn : n = k
    · refine ⟨fun z => by omega, ?_⟩
      have h3 := h1 (by omega)
      show cnt tn' n + (if tn' n = 0 then 0 else 1) ≤ cnt tn n + (if tn n = 0 then 0 else 1) + 1
      split <;> split <;> omega
    · have h3 : tn' n = tn n := upd_ne e hn
      refine ⟨fun z => ?_, ?_⟩
      · show cnt tn' n + (if tn' n = 0 then 0 else 1) = cnt tn n + (if tn n = 0 then 0 else 1)
        rw [h3, h1 (by omega)]
      · show cnt tn' n + (if tn' n = 0 then 0 else 1) ≤ cnt tn n + (if tn n = 0 then 0 else 1) + 1
        rw [h3]
        omega
theorem cnt_0 : ∀ n, cnt (fun _ => 0) n = 0
  | 0 => rfl
  | n + 1 => by
    show cnt (fun _ => 0) n + _ = 0
    rw [cnt_0 n]
    rfl
theorem good_harm (G : Good lb a wr tn w hm hh h) (hlt : h < 40) {k : Nat} (hk : k < 1536) (h1 : w' (k / 64) = w (k / 64) ^^^ flp k) (h2 : ∀ j, j ≠ k / 64 → w' j = w j) {v : Int32} (hv : v = if tn k = 0 then 1 else 0) (h3 : tn' = upd tn k v) {hm' hh' : Int32} (h4 : hm' = hm + 1) (h5 : hh' = hh + 1) : Good lb a wr tn' w' hm' hh' (h + 1) := by
  obtain ⟨g1, g2, g3, g4, g5, g6, g7⟩ := G
  refine ⟨g1, g2, by omega, by rw [h4]; exact ad1 g4, by rw [h5]; exact ad1 g5, ?_, ?_⟩
  · have := (cnt_up h3 1536).2
    omega
  · intro p hp
    have g := g7 p hp
    have ef : ∀ i, i < 64 → bl (flp k) i = decide (k % 64 = i) := by
      intro i hi
      unfold bl flp
      rw [bl_flp _ (Nat.mod_lt _ (by decide)), BitVec.getLsbD_twoPow]
      simp only [Nat.mod_lt k (show 64 > 0 by decide), decide_true, Bool.true_and]
      try rfl
    by_cases hpk : p = k
    · rw [hpk] at g ⊢
      show bl (w' (k / 64)) (k % 64) = _
      rw [h1, bl_xor, ef _ (Nat.mod_lt _ (by decide)), decide_eq_true rfl, show bl (w (k / 64)) (k % 64) = bitB w k from rfl, g, upd_at h3 rfl, hv]
      by_cases c : tn k = 0
      · simp [c]
      · simp [c]
    · rw [upd_ne h3 hpk, ← g]
      show bl (w' (p / 64)) (p % 64) = bl (w (p / 64)) (p % 64)
      by_cases hq : p / 64 = k / 64
      · rw [hq, h1, bl_xor, ef _ (Nat.mod_lt _ (by decide)), decide_eq_false (by omega), Bool.xor_false]
      · rw [h2 _ hq]
theorem good_letter (G : Good lb a wr tn w hm hh h) {i v : Int32} (h1 : lb' (n3 i) = v.toInt8.toInt32) (h2 : ∀ k, k ≠ n3 i → lb' k = lb k) (h3 : a' = upd a (n3 i) (v &&& 255)) : Good lb' a' wr tn w hm hh h := by
  obtain ⟨g1, g2⟩ := G
  refine ⟨fun k hk => ?_, g2⟩
  by_cases c : k = n3 i
  · rw [upd_at h3 c, c, h1, bp_b]
  · rw [upd_ne h3 c, h2 k c]
    exact g1 k hk
theorem dueB_255 (x : Int32) (j : Nat) : dueB (x &&& 255) j = dueB x j := by
  have e : ∀ i, i < 8 → (x &&& 255).toBitVec.getLsbD i = x.toBitVec.getLsbD i := by
    intro i hi
    have := b_and x 255 i
    rw [b_255, decide_eq_true hi, Bool.and_true] at this
    exact this
  simp only [dueB, dueBk]
  rw [e 7 (by decide), e 0 (by decide), e 1 (by decide), e 2 (by decide), e 3 (by decide), e 4 (by decide), e 5 (by decide), e 6 (by decide)]
theorem good_init : Good (fun _ => 0) (fun _ => 0) (fun _ => 0) (fun _ => 0) (fun _ => 0) 0 0 0 := by
  refine ⟨fun _ _ => (by decide : (0 : Int32) = 0 &&& 255), fun _ _ => (by decide : (0 : Int32) &&& 255 = 0), by decide, rfl, rfl, by rw [cnt_0]; exact Nat.le_refl _, fun p hp => ?_⟩
  show bl 0 _ = _
  rw [bl_0]
  simp [dueB, dueBk]
-- encoding
theorem bm_bit (b : Int32) {i : Nat} (hi : i < 32) : bt (bm b) i = bt b 0 := by
  unfold bm
  rw [i1]
  cases bt b 0
  · exact b_0 i
  · exact b_m1 i hi
theorem bms (m : Int32) {k i : Nat} (hk : k < 32) (hi : i < 32) : bt (bm (m >>> (nI k &&& 31))) i = bt m k := by
  rw [bm_bit _ hi, b_sshr k hk m (by decide), if_pos (by omega), Nat.add_zero]
theorem mk0 : ∀ i, i < 32 → bt (-1431655766) i = i.testBit 0 := by decide +kernel
theorem mk1 : ∀ i, i < 32 → bt (-858993460) i = i.testBit 1 := by decide +kernel
theorem mk2 : ∀ i, i < 32 → bt (-252645136) i = i.testBit 2 := by decide +kernel
theorem mk3 : ∀ i, i < 32 → bt (-16711936) i = i.testBit 3 := by decide +kernel
theorem mk4 : ∀ i, i < 32 → bt (-65536) i = i.testBit 4 := by decide +kernel
theorem esA_bit (m : Int32) {i : Nat} (hi : i < 32) : bt (esA m) i = (bt m 7 ^^ (bt m 0 && i.testBit 0) ^^ (bt m 1 && i.testBit 1) ^^ (bt m 2 && i.testBit 2) ^^ (bt m 3 && i.testBit 3) ^^ (bt m 4 && i.testBit 4)) := by
  unfold esA
  rw [b_xor, b_xor, b_xor, b_xor, b_xor, b_and, b_and, b_and, b_and, b_and, mk0 i hi, mk1 i hi, mk2 i hi, mk3 i hi, mk4 i hi, bm_bit m hi]
  rw [show bt (bm (m >>> ((7 : Int32) &&& 31))) i = bt m 7 from bms m (k := 7) (by decide) hi, show bt (bm (m >>> ((1 : Int32) &&& 31))) i = bt m 1 from bms m (k := 1) (by decide) hi, show bt (bm (m >>> ((2 : Int32) &&& 31))) i = bt m 2 from bms m (k := 2) (by decide) hi, show bt (bm (m >>> ((3 : Int32) &&& 31))) i = bt m 3 from bms m (k := 3) (by decide) hi, show bt (bm (m >>> ((4 : Int32) &&& 31))) i = bt m 4 from bms m (k := 4) (by decide) hi]
theorem dueB_def (x : Int32) (j : Nat) : dueB x j = (bt x 7 ^^ (bt x 0 && j.testBit 0) ^^ (bt x 1 && j.testBit 1) ^^ (bt x 2 && j.testBit 2) ^^ (bt x 3 && j.testBit 3) ^^ (bt x 4 && j.testBit 4) ^^ (bt x 5 && j.testBit 5) ^^ (bt x 6 && j.testBit 6)) := rfl
theorem tb0 : ∀ i, i < 32 → i.testBit 5 = false ∧ i.testBit 6 = false := by decide +kernel
theorem tb1 : ∀ i, i < 32 → (32 + i).testBit 0 = i.testBit 0 ∧ (32 + i).testBit 1 = i.testBit 1 ∧ (32 + i).testBit 2 = i.testBit 2 ∧ (32 + i).testBit 3 = i.testBit 3 ∧ (32 + i).testBit 4 = i.testBit 4 ∧ (32 + i).testBit 5 = true ∧ (32 + i).testBit 6 = false := by decide +kernel
theorem tb2 : ∀ i, i < 32 → (64 + i).testBit 0 = i.testBit 0 ∧ (64 + i).testBit 1 = i.testBit 1 ∧ (64 + i).testBit 2 = i.testBit 2 ∧ (64 + i).testBit 3 = i.testBit 3 ∧ (64 + i).testBit 4 = i.testBit 4 ∧ (64 + i).testBit 5 = false ∧ (64 + i).testBit 6 = true := by decide +kernel
theorem tb3 : ∀ i, i < 32 → (96 + i).testBit 0 = i.testBit 0 ∧ (96 + i).testBit 1 = i.testBit 1 ∧ (96 + i).testBit 2 = i.testBit 2 ∧ (96 + i).testBit 3 = i.testBit 3 ∧ (96 + i).testBit 4 = i.testBit 4 ∧ (96 + i).testBit 5 = true ∧ (96 + i).testBit 6 = true := by decide +kernel
theorem esB_bit (m : Int32) {i : Nat} (hi : i < 32) : bt (esB m) i = (bt (esA m) i ^^ bt m 5) := by
  unfold esB
  rw [b_xor, show bt (bm (m >>> ((5 : Int32) &&& 31))) i = bt m 5 from bms m (k := 5) (by decide) hi]
theorem esD_bit (m : Int32) {i : Nat} (hi : i < 32) : bt (esD m) i = (bt (esB m) i ^^ bt m 6) := by
  unfold esD
  rw [b_xor, show bt (bm (m >>> ((6 : Int32) &&& 31))) i = bt m 6 from bms m (k := 6) (by decide) hi]
theorem esC_bit (m : Int32) {i : Nat} (hi : i < 32) : bt (esC m) i = (bt (esD m) i ^^ bt m 5) := by
  unfold esC
  rw [b_xor, show bt (bm (m >>> ((5 : Int32) &&& 31))) i = bt m 5 from bms m (k := 5) (by decide) hi]
theorem due0 (m : Int32) {i : Nat} (hi : i < 32) : dueB m i = bt (esA m) i := by
  obtain ⟨t5, t6⟩ := tb0 i hi
  rw [dueB_def, esA_bit m hi, t5, t6]
  simp
theorem due1 (m : Int32) {i : Nat} (hi : i < 32) : dueB m (32 + i) = bt (esB m) i := by
  obtain ⟨t0, t1, t2, t3, t4, t5, t6⟩ := tb1 i hi
  rw [dueB_def, esB_bit m hi, esA_bit m hi, t0, t1, t2, t3, t4, t5, t6]
  simp
theorem due2 (m : Int32) {i : Nat} (hi : i < 32) : dueB m (64 + i) = bt (esC m) i := by
  obtain ⟨t0, t1, t2, t3, t4, t5, t6⟩ := tb2 i hi
  rw [dueB_def, esC_bit m hi, esD_bit m hi, esB_bit m hi, esA_bit m hi, t0, t1, t2, t3, t4, t5, t6]
  generalize (bt m 7 ^^ (bt m 0 && i.testBit 0) ^^ (bt m 1 && i.testBit 1) ^^ (bt m 2 && i.testBit 2) ^^ (bt m 3 && i.testBit 3) ^^ (bt m 4 && i.testBit 4)) = z
  cases z <;> cases bt m 5 <;> cases bt m 6 <;> rfl
theorem due3 (m : Int32) {i : Nat} (hi : i < 32) : dueB m (96 + i) = bt (esD m) i := by
  obtain ⟨t0, t1, t2, t3, t4, t5, t6⟩ := tb3 i hi
  rw [dueB_def, esD_bit m hi, esB_bit m hi, esA_bit m hi, t0, t1, t2, t3, t4, t5, t6]
  simp
theorem two_bit (x y : Int32) {i : Nat} (hi : i < 64) : bl ((x.toInt64 &&& 4294967295) ||| (y.toInt64 <<< ((32 : Int32).toInt64 &&& 63))) i = if i < 32 then bt x i else bt y (i - 32) := by
  rw [bl_or, bl_and, bl_mask i hi, bl_shl _ hi]
  by_cases h : i < 32
  · rw [if_pos h, decide_eq_true h, decide_eq_false (by omega), bl_i2l x h]
    simp
  · rw [if_neg h, decide_eq_false h, decide_eq_true (by omega), bl_i2l y (by omega)]
    simp
theorem lo_bit (m : Int32) {i : Nat} (hi : i < 64) : bl (loW m) i = dueB m i := by
  unfold loW
  rw [two_bit _ _ hi]
  by_cases h : i < 32
  · rw [if_pos h, due0 m h]
  · have e : i = 32 + (i - 32) := by omega
    rw [if_neg h, ← due1 m (by omega), ← e]
theorem hi_bit (m : Int32) {i : Nat} (hi : i < 64) : bl (hiW m) i = dueB m (64 + i) := by
  unfold hiW
  rw [two_bit _ _ hi]
  by_cases h : i < 32
  · rw [if_pos h, due2 m h]
  · have e : 64 + i = 96 + (i - 32) := by omega
    rw [if_neg h, ← due3 m (by omega), ← e]
theorem good_write (h0 : ∀ k, k < 4 → a k = lb k &&& 255) (h1 : Enc lb 12 w') (h2 : ∀ k, k < 4 → wr' k = a k) : Good lb a wr' (fun _ => 0) w' 0 0 0 := by
  refine ⟨h0, fun k hk => ?_, by decide, rfl, rfl, by rw [cnt_0]; exact Nat.le_refl _, fun p hp => ?_⟩
  · rw [h2 k hk, h0 k hk, Int32.and_assoc]
    rfl
  · have h3 := h1 (p / 128) (by omega)
    rw [h2 _ (by omega), h0 _ (by omega), dueB_255]
    rw [show p / 128 / 3 = p / 384 by omega] at h3
    simp only [ne_eq, not_true, decide_false, Bool.xor_false]
    show bl (w' (p / 64)) (p % 64) = _
    by_cases c : p / 64 % 2 = 0
    · rw [show p / 64 = 2 * (p / 128) by omega, h3.1, lo_bit _ (Nat.mod_lt _ (by decide))]
      congr 1
      omega
    · rw [show p / 64 = 2 * (p / 128) + 1 by omega, h3.2, hi_bit _ (Nat.mod_lt _ (by decide))]
      congr 1
      omega
end
section
/-! THE PLAIN LAW: a word with at most 40 turned places reads as the letters last written -/
set_option maxRecDepth 100000
-- sums, transforms over the whole numbers
def sN (f : Nat → Nat) : Nat → Nat
  | 0 => 0
  | n + 1 => sN f n + f n
def hsZ (f : Nat → Int) (k : Nat) : Int := if k < 64 then f (2 * k) + f (2 * k + 1) else f (2 * (k - 64)) - f (2 * (k - 64) + 1)
def hpZ (f : Nat → Int) : Nat → Nat → Int
  | 0 => f
  | n + 1 => hsZ (hpZ f n)
def asN (f : Nat → Nat) (k : Nat) : Nat := f (2 * (k % 64)) + f (2 * (k % 64) + 1)
def apN (f : Nat → Nat) : Nat → Nat → Nat
  | 0 => f
  | n + 1 => asN (apN f n)
theorem hpZ_add {f g e : Nat → Int} (h : ∀ j, j < 128 → e j = f j + g j) : ∀ n j, j < 128 → hpZ e n j = hpZ f n j + hpZ g n j
  | 0, j, hj => h j hj
  | n + 1, j, hj => by
    show hsZ (hpZ e n) j = hsZ (hpZ f n) j + hsZ (hpZ g n) j
    unfold hsZ
    split
    · rw [hpZ_add h n _ (by omega), hpZ_add h n _ (by omega)]
      omega
    · rw [hpZ_add h n _ (by omega), hpZ_add h n _ (by omega)]
      omega
theorem hpZ_congr {f g : Nat → Int} (h : ∀ j, j < 128 → f j = g j) : ∀ n j, j < 128 → hpZ f n j = hpZ g n j
  | 0, j, hj => h j hj
  | n + 1, j, hj => by
    show hsZ (hpZ f n) j = hsZ (hpZ g n) j
    unfold hsZ
    split
    · rw [hpZ_congr h n _ (by omega), hpZ_congr h n _ (by omega)]
    · rw [hpZ_congr h n _ (by omega), hpZ_congr h n _ (by omega)]
theorem hpZ_abs {g : Nat → Int} {t : Nat → Nat} (h : ∀ j, j < 128 → -(t j : Int) ≤ g j ∧ g j ≤ (t j : Int)) : ∀ n j, j < 128 → -(apN t n j : Int) ≤ hpZ g n j ∧ hpZ g n j ≤ (apN t n j : Int)
  | 0, j, hj => h j hj
  | n + 1, j, hj => by
    show -(asN (apN t n) j : Int) ≤ hsZ (hpZ g n) j ∧ hsZ (hpZ g n) j ≤ (asN (apN t n) j : Int)
    unfold hsZ asN
    split
    · have h1 := hpZ_abs h n (2 * j) (by omega)
      have h2 := hpZ_abs h n (2 * j + 1) (by omega)
      rw [show j % 64 = j by omega]
      omega
    · have h1 := hpZ_abs h n (2 * (j - 64)) (by omega)
      have h2 := hpZ_abs h n (2 * (j - 64) + 1) (by omega)
      rw [show j % 64 = j - 64 by omega]
      omega
theorem sN_2 (f : Nat → Nat) : ∀ m, m ≤ 64 → sN (asN f) m = sN f (2 * m)
  | 0, _ => rfl
  | m + 1, h => by
    have e : sN f (2 * (m + 1)) = sN f (2 * m) + f (2 * m) + f (2 * m + 1) := rfl
    rw [e, ← sN_2 f m (by omega)]
    show sN (asN f) m + (f (2 * (m % 64)) + f (2 * (m % 64) + 1)) = _
    rw [show m % 64 = m by omega]
    omega
theorem apN_7 (t : Nat → Nat) (a : Nat) : apN t 7 a = sN t 128 := by
  have hF : ∀ n k, apN t (n + 1) k = apN t n (2 * (k % 64)) + apN t n (2 * (k % 64) + 1) := fun _ _ => rfl
  have p1 : ∀ j k, j % 64 = k % 64 → apN t 1 j = apN t 1 k := fun j k h => by rw [hF, hF, h]
  have p2 : ∀ j k, j % 32 = k % 32 → apN t 2 j = apN t 2 k := fun j k h => by rw [hF 1, hF 1, p1 (2 * (j % 64)) (2 * (k % 64)) (by omega), p1 (2 * (j % 64) + 1) (2 * (k % 64) + 1) (by omega)]
  have p3 : ∀ j k, j % 16 = k % 16 → apN t 3 j = apN t 3 k := fun j k h => by rw [hF 2, hF 2, p2 (2 * (j % 64)) (2 * (k % 64)) (by omega), p2 (2 * (j % 64) + 1) (2 * (k % 64) + 1) (by omega)]
  have p4 : ∀ j k, j % 8 = k % 8 → apN t 4 j = apN t 4 k := fun j k h => by rw [hF 3, hF 3, p3 (2 * (j % 64)) (2 * (k % 64)) (by omega), p3 (2 * (j % 64) + 1) (2 * (k % 64) + 1) (by omega)]
  have p5 : ∀ j k, j % 4 = k % 4 → apN t 5 j = apN t 5 k := fun j k h => by rw [hF 4, hF 4, p4 (2 * (j % 64)) (2 * (k % 64)) (by omega), p4 (2 * (j % 64) + 1) (2 * (k % 64) + 1) (by omega)]
  have p6 : ∀ j k, j % 2 = k % 2 → apN t 6 j = apN t 6 k := fun j k h => by rw [hF 5, hF 5, p5 (2 * (j % 64)) (2 * (k % 64)) (by omega), p5 (2 * (j % 64) + 1) (2 * (k % 64) + 1) (by omega)]
  have p7 : ∀ j k, apN t 7 j = apN t 7 k := fun j k => by rw [hF 6, hF 6, p6 (2 * (j % 64)) (2 * (k % 64)) (by omega), p6 (2 * (j % 64) + 1) (2 * (k % 64) + 1) (by omega)]
  have s : ∀ n m, m ≤ 64 → sN (apN t (n + 1)) m = sN (apN t n) (2 * m) := fun n m h => sN_2 (apN t n) m h
  have e : sN (apN t 7) 1 = sN t 128 := by
    rw [s 6 1 (by decide), s 5 2 (by decide), s 4 4 (by decide), s 3 8 (by decide), s 2 16 (by decide), s 1 32 (by decide), s 0 64 (by decide)]
    rfl
  rw [← e, p7 a 0]
  show _ = 0 + apN t 7 0
  omega
theorem sN_add (f g e : Nat → Nat) (h : ∀ j, e j = f j + g j) : ∀ n, sN e n = sN f n + sN g n
  | 0 => rfl
  | n + 1 => by
    show sN e n + e n = sN f n + f n + (sN g n + g n)
    rw [sN_add f g e h n, h n]
    omega
theorem sN_app (f : Nat → Nat) (a : Nat) : ∀ b, sN f (a + b) = sN f a + sN (fun j => f (a + j)) b
  | 0 => rfl
  | b + 1 => by
    show sN f (a + b) + f (a + b) = sN f a + (sN (fun j => f (a + j)) b + f (a + b))
    rw [sN_app f a b]
    omega
theorem sN_mono (f : Nat → Nat) (a b : Nat) : sN f a ≤ sN f (a + b) := by
  rw [sN_app]
  omega
-- the same over ints, when they are small
theorem hst_Z {f : Nat → Int32} {F : Nat → Int} {B : Nat} (hB : B ≤ 1048576) (h : ∀ j, j < 128 → (f j).toInt = F j ∧ -(B : Int) ≤ F j ∧ F j ≤ B) : ∀ j, j < 128 → (hst f j).toInt = hsZ F j ∧ -((2 * B : Nat) : Int) ≤ hsZ F j ∧ hsZ F j ≤ ((2 * B : Nat) : Int) := by
  intro j hj
  unfold hst hsZ
  split
  · obtain ⟨a1, a2, a3⟩ := h (2 * j) (by omega)
    obtain ⟨b1, b2, b3⟩ := h (2 * j + 1) (by omega)
    rw [Int32.toInt_add, a1, b1, Int.bmod_eq_of_le (by omega) (by omega)]
    omega
  · obtain ⟨a1, a2, a3⟩ := h (2 * (j - 64)) (by omega)
    obtain ⟨b1, b2, b3⟩ := h (2 * (j - 64) + 1) (by omega)
    rw [Int32.toInt_sub, a1, b1, Int.bmod_eq_of_le (by omega) (by omega)]
    omega
theorem hpw_Z {f : Nat → Int32} {F : Nat → Int} (h : ∀ j, j < 128 → (f j).toInt = F j ∧ -3 ≤ F j ∧ F j ≤ 3) : ∀ j, j < 128 → (hpw f 7 j).toInt = hpZ F 7 j ∧ -384 ≤ hpZ F 7 j ∧ hpZ F 7 j ≤ 384 := by
  have h1 := hst_Z (B := 3) (by decide) h
  have h2 := hst_Z (B := 6) (by decide) h1
  have h3 := hst_Z (B := 12) (by decide) h2
  have h4 := hst_Z (B := 24) (by decide) h3
  have h5 := hst_Z (B := 48) (by decide) h4
  have h6 := hst_Z (B := 96) (by decide) h5
  have h7 := hst_Z (B := 192) (by decide) h6
  exact h7
-- the transform of the words
def xk : Nat → Nat → Nat → Bool
  | 0, _, _ => false
  | k + 1, l, r => (decide (l % 2 = 1) && decide (r % 2 = 1)) ^^ xk k (l / 2) (r / 2)
def chi (k l r : Nat) : Int := if xk k l r = true then -1 else 1
theorem chi_ev {k l r : Nat} (h : r % 2 = 0) : chi (k + 1) l r = chi k (l / 2) (r / 2) := by
  unfold chi
  rw [show xk (k + 1) l r = ((decide (l % 2 = 1) && decide (r % 2 = 1)) ^^ xk k (l / 2) (r / 2)) from rfl, decide_eq_false (show ¬ r % 2 = 1 by omega), Bool.and_false, Bool.false_xor]
theorem chi_od0 {k l r : Nat} (hl : l % 2 = 0) : chi (k + 1) l r = chi k (l / 2) (r / 2) := by
  unfold chi
  rw [show xk (k + 1) l r = ((decide (l % 2 = 1) && decide (r % 2 = 1)) ^^ xk k (l / 2) (r / 2)) from rfl, decide_eq_false (show ¬ l % 2 = 1 by omega), Bool.false_and, Bool.false_xor]
theorem chi_od1 {k l r : Nat} (h : r % 2 = 1) (hl : l % 2 = 1) : chi (k + 1) l r = - chi k (l / 2) (r / 2) := by
  unfold chi
  rw [show xk (k + 1) l r = ((decide (l % 2 = 1) && decide (r % 2 = 1)) ^^ xk k (l / 2) (r / 2)) from rfl, decide_eq_true h, decide_eq_true hl]
  cases xk k (l / 2) (r / 2) <;> rfl
theorem chi_step {v : Nat → Int} {low N N2 F : Nat} (T R T' R' : Nat → Nat) (hN : N2 = 2 * N)
    (hv : ∀ k, k < 128 → v k = if T k = low % N then (N : Int) * chi (F + 1) (low / N) (R k) else 0)
    (h1 : ∀ r, r < 64 → T (2 * r + 1) = T (2 * r) ∧ R (2 * r) % 2 = 0 ∧ R (2 * r + 1) = R (2 * r) + 1)
    (h2 : ∀ k, k < 64 → (T' k = low % N2 ↔ (T (2 * k) = low % N ∧ low / N % 2 = 0)) ∧ R' k = R (2 * k) / 2)
    (h3 : ∀ k, 64 ≤ k → k < 128 → (T' k = low % N2 ↔ (T (2 * (k - 64)) = low % N ∧ low / N % 2 = 1)) ∧ R' k = R (2 * (k - 64)) / 2) :
    ∀ k, k < 128 → hsZ v k = if T' k = low % N2 then (N2 : Int) * chi F (low / N2) (R' k) else 0 := by
  intro k hk
  have hd : low / N / 2 = low / N2 := by rw [hN, Nat.div_div_eq_div_mul, Nat.mul_comm]
  have hcN : (N2 : Int) = 2 * (N : Int) := by rw [hN]; omega
  have key : ∀ r, r < 64 → (v (2 * r) = if T (2 * r) = low % N then (N : Int) * chi F (low / N2) (R (2 * r) / 2) else 0) ∧ (v (2 * r + 1) = if T (2 * r) = low % N then (if low / N % 2 = 0 then (N : Int) * chi F (low / N2) (R (2 * r) / 2) else -((N : Int) * chi F (low / N2) (R (2 * r) / 2))) else 0) := by
    intro r hr
    obtain ⟨a1, a2, a3⟩ := h1 r hr
    refine ⟨?_, ?_⟩
    · rw [hv _ (by omega), chi_ev a2, hd]
    · rw [hv _ (by omega), a1, a3]
      by_cases c : T (2 * r) = low % N
      · rw [if_pos c, if_pos c]
        by_cases c2 : low / N % 2 = 0
        · rw [if_pos c2, chi_od0 c2, hd, show (R (2 * r) + 1) / 2 = R (2 * r) / 2 by omega]
        · rw [if_neg c2, chi_od1 (by omega) (by omega), hd, show (R (2 * r) + 1) / 2 = R (2 * r) / 2 by omega, Int.mul_neg]
      · rw [if_neg c, if_neg c]
  unfold hsZ
  split
  · rename_i hlt
    obtain ⟨k1, k2⟩ := key k hlt
    obtain ⟨b1, b2⟩ := h2 k hlt
    rw [k1, k2, b2, hcN, Int.mul_assoc]
    generalize (N : Int) * chi F (low / N2) (R (2 * k) / 2) = z
    by_cases c : T (2 * k) = low % N
    · by_cases c2 : low / N % 2 = 0
      · rw [if_pos c, if_pos c, if_pos c2, if_pos (b1.mpr ⟨c, c2⟩)]
        omega
      · rw [if_pos c, if_pos c, if_neg c2, if_neg (fun q => c2 (b1.mp q).2)]
        omega
    · rw [if_neg c, if_neg c, if_neg (fun q => c (b1.mp q).1)]
      rfl
  · rename_i hge
    obtain ⟨k1, k2⟩ := key (k - 64) (by omega)
    obtain ⟨b1, b2⟩ := h3 k (by omega) hk
    rw [k1, k2, b2, hcN, Int.mul_assoc]
    generalize (N : Int) * chi F (low / N2) (R (2 * (k - 64)) / 2) = z
    by_cases c : T (2 * (k - 64)) = low % N
    · by_cases c2 : low / N % 2 = 0
      · rw [if_pos c, if_pos c, if_pos c2, if_neg (fun q => by have := (b1.mp q).2; omega)]
        omega
      · rw [if_pos c, if_pos c, if_neg c2, if_pos (b1.mpr ⟨c, by omega⟩)]
        omega
    · rw [if_neg c, if_neg c, if_neg (fun q => c (b1.mp q).1)]
      rfl
theorem chi_tr (low : Nat) (hlow : low < 256) (a : Nat) (ha : a < 128) : hpZ (chi 7 low) 7 a = if a = low % 128 then 128 else 0 := by
  have s0 : ∀ k, k < 128 → hpZ (chi 7 low) 0 k = if k / 128 = low % 1 then ((1 : Nat) : Int) * chi (6 + 1) (low / 1) (k % 128) else 0 := by
    intro k hk
    rw [if_pos (by omega), Nat.div_one, Nat.mod_eq_of_lt hk]
    show chi 7 low k = 1 * chi 7 low k
    rw [Int.one_mul]
  have s1 := chi_step (low := low) (N := 1) (N2 := 2) (F := 6) (fun k => k / 128) (fun k => k % 128) (fun k => k / 64) (fun k => k % 64) rfl s0 (fun r hr => by omega) (fun k hk => by omega) (fun k hk hk2 => by omega)
  have s2 := chi_step (low := low) (N := 2) (N2 := 4) (F := 5) (fun k => k / 64) (fun k => k % 64) (fun k => k / 32) (fun k => k % 32) rfl s1 (fun r hr => by omega) (fun k hk => by omega) (fun k hk hk2 => by omega)
  have s3 := chi_step (low := low) (N := 4) (N2 := 8) (F := 4) (fun k => k / 32) (fun k => k % 32) (fun k => k / 16) (fun k => k % 16) rfl s2 (fun r hr => by omega) (fun k hk => by omega) (fun k hk hk2 => by omega)
  have s4 := chi_step (low := low) (N := 8) (N2 := 16) (F := 3) (fun k => k / 16) (fun k => k % 16) (fun k => k / 8) (fun k => k % 8) rfl s3 (fun r hr => by omega) (fun k hk => by omega) (fun k hk hk2 => by omega)
  have s5 := chi_step (low := low) (N := 16) (N2 := 32) (F := 2) (fun k => k / 8) (fun k => k % 8) (fun k => k / 4) (fun k => k % 4) rfl s4 (fun r hr => by omega) (fun k hk => by omega) (fun k hk hk2 => by omega)
  have s6 := chi_step (low := low) (N := 32) (N2 := 64) (F := 1) (fun k => k / 4) (fun k => k % 4) (fun k => k / 2) (fun k => k % 2) rfl s5 (fun r hr => by omega) (fun k hk => by omega) (fun k hk hk2 => by omega)
  have s7 := chi_step (low := low) (N := 64) (N2 := 128) (F := 0) (fun k => k / 2) (fun k => k % 2) (fun k => k / 1) (fun k => k % 1) rfl s6 (fun r hr => by omega) (fun k hk => by omega) (fun k hk hk2 => by omega)
  have h := s7 a ha
  try dsimp only at h
  rw [Nat.div_one] at h
  exact h
theorem hpZ_mul {f e : Nat → Int} (c : Int) (h : ∀ j, j < 128 → e j = c * f j) : ∀ n j, j < 128 → hpZ e n j = c * hpZ f n j
  | 0, j, hj => h j hj
  | n + 1, j, hj => by
    show hsZ (hpZ e n) j = c * hsZ (hpZ f n) j
    unfold hsZ
    split
    · rw [hpZ_mul c h n _ (by omega), hpZ_mul c h n _ (by omega), Int.mul_add]
    · rw [hpZ_mul c h n _ (by omega), hpZ_mul c h n _ (by omega), Int.mul_sub]
theorem dueB_chi (n j : Nat) (hn : n < 256) : dueB (nI n) j = (decide (128 ≤ n) ^^ xk 7 n j) := by
  rw [dueB_def, bt_nI (by decide), bt_nI (by decide), bt_nI (by decide), bt_nI (by decide), bt_nI (by decide), bt_nI (by decide), bt_nI (by decide), bt_nI (by decide)]
  have h7 : n.testBit 7 = decide (128 ≤ n) := by
    rw [Nat.testBit_eq_decide_div_mod_eq]
    by_cases c : 128 ≤ n
    · rw [decide_eq_true c, decide_eq_true (by omega)]
    · rw [decide_eq_false c, decide_eq_false (by omega)]
  have t : ∀ x i : Nat, x.testBit (i + 1) = (x / 2).testBit i := fun x i => Nat.testBit_succ x i
  have z : ∀ x : Nat, x.testBit 0 = decide (x % 2 = 1) := fun x => Nat.testBit_zero x
  rw [h7]
  simp only [xk, t n 0, t n 1, t n 2, t n 3, t n 4, t n 5, t j 0, t j 1, t j 2, t j 3, t j 4, t j 5]
  simp only [t, z, Bool.xor_false, Bool.xor_assoc]
def pkZ (n a : Nat) : Int := (if a = 0 then 192 else 0) + (if a = n % 128 then (if n < 128 then -192 else 192) else 0)
theorem word_tr {n : Nat} (hn : n < 256) (a : Nat) (ha : a < 128) : hpZ (fun j => if dueB (nI n) j = true then 3 else 0) 7 a = pkZ n a := by
  have e2 : ∀ j, j < 128 → (2 : Int) * (if dueB (nI n) j = true then 3 else 0) = 3 * chi 7 0 j + (if n < 128 then -3 else 3) * chi 7 n j := by
    intro j hj
    have z0 : chi 7 0 j = 1 := by
      unfold chi
      rw [if_neg]
      simp [xk]
    rw [z0, dueB_chi n j hn]
    unfold chi
    by_cases c : n < 128
    · rw [decide_eq_false (show ¬ 128 ≤ n by omega), if_pos c]
      cases xk 7 n j <;> rfl
    · rw [decide_eq_true (show 128 ≤ n by omega), if_neg c]
      cases xk 7 n j <;> rfl
  have h1 := hpZ_mul (f := fun j => if dueB (nI n) j = true then 3 else 0) (e := fun j => (2 : Int) * (if dueB (nI n) j = true then 3 else 0)) 2 (fun j hj => rfl) 7 a ha
  have h2 := hpZ_add (f := fun j => 3 * chi 7 0 j) (g := fun j => (if n < 128 then -3 else 3) * chi 7 n j) e2 7 a ha
  have h3 := hpZ_mul (f := chi 7 0) (e := fun j => 3 * chi 7 0 j) 3 (fun j hj => rfl) 7 a ha
  have h4 := hpZ_mul (f := chi 7 n) (e := fun j => (if n < 128 then -3 else 3) * chi 7 n j) (if n < 128 then -3 else 3) (fun j hj => rfl) 7 a ha
  rw [chi_tr 0 (by decide) a ha] at h3
  rw [chi_tr n hn a ha] at h4
  rw [h1, h3, h4] at h2
  unfold pkZ
  generalize hpZ (fun j => if dueB (nI n) j = true then 3 else 0) 7 a = z at h2 ⊢
  rw [show 0 % 128 = 0 from rfl] at h2
  by_cases ca : a = 0 <;> by_cases cb : a = n % 128 <;> by_cases cc : n < 128 <;> simp only [ca, cb, cc, if_true, if_false, if_pos, if_neg, not_false_iff] at h2 ⊢ <;> (try split at h2) <;> (try split) <;> omega
-- the greatest
theorem pab_val {t : Int32} (h : -1000 ≤ t.toInt ∧ t.toInt ≤ 1000) : (pab t).toInt = if t.toInt ≤ 0 then -t.toInt else t.toInt := by
  unfold pab pkm
  have h0 : (0 : Int32).toInt = 0 := by decide
  by_cases c : t ≤ 0
  · have c2 : t.toInt ≤ 0 := by have := Int32.le_iff_toInt_le.mp c; omega
    have e : (((0 : Int32) &&& t) ||| (((0 : Int32) ^^^ (-1)) &&& (-t))) = -t := by
      apply b_ext
      intro i hi
      rw [b_or, b_and, b_and, b_xor, b_0, b_m1 i hi]
      simp
    rw [if_pos c, if_pos c2, e, Int32.toInt_neg, Int.bmod_eq_of_le (by omega) (by omega)]
  · have c2 : ¬ t.toInt ≤ 0 := fun q => c (Int32.le_iff_toInt_le.mpr (by omega))
    have e : (((-1 : Int32) &&& t) ||| (((-1 : Int32) ^^^ (-1)) &&& (-t))) = t := by
      apply b_ext
      intro i hi
      rw [b_or, b_and, b_and, b_xor, b_m1 i hi]
      simp
    rw [if_neg c, if_neg c2, e]
theorem pk_max {f : Nat → Int32} {p : Nat} (hp : p < 128) (h1 : ∀ j, j < 128 → 0 ≤ (pab (f j)).toInt) (h2 : ∀ j, j < 128 → j ≠ p → (pab (f j)).toInt < (pab (f p)).toInt) (h3 : 0 < (pab (f p)).toInt) :
    ∀ n, n ≤ 128 → (n ≤ p → 0 ≤ (pkA f n).toInt ∧ (pkA f n).toInt < (pab (f p)).toInt) ∧ (p < n → pkA f n = pab (f p) ∧ pkV f n = f p ∧ pkP f n = nI p)
  | 0, _ => ⟨fun _ => ⟨by show 0 ≤ (0 : Int32).toInt; decide, by show (0 : Int32).toInt < _; rw [show (0 : Int32).toInt = 0 by decide]; exact h3⟩, fun h => absurd h (Nat.not_lt_zero _)⟩
  | n + 1, hn => by
    obtain ⟨a1, a2⟩ := pk_max hp h1 h2 h3 n (by omega)
    have b1 := h1 n (by omega)
    refine ⟨fun h => ?_, fun h => ?_⟩
    · have b2 := h2 n (by omega) (by omega)
      obtain ⟨c1, c2⟩ := a1 (by omega)
      show 0 ≤ (if pab (f n) < pkA f n then pkA f n else pab (f n)).toInt ∧ (if pab (f n) < pkA f n then pkA f n else pab (f n)).toInt < _
      split
      · exact ⟨c1, c2⟩
      · exact ⟨b1, b2⟩
    · show (if pab (f n) < pkA f n then pkA f n else pab (f n)) = _ ∧ (if pab (f n) ≤ pkA f n then pkV f n else f n) = _ ∧ (if pab (f n) ≤ pkA f n then pkP f n else nI n) = _
      by_cases c : p = n
      · obtain ⟨c1, c2⟩ := a1 (by omega)
        rw [c] at c2 ⊢
        have d1 : ¬ pab (f n) < pkA f n := fun q => by have := Int32.lt_iff_toInt_lt.mp q; omega
        have d2 : ¬ pab (f n) ≤ pkA f n := fun q => by have := Int32.le_iff_toInt_le.mp q; omega
        rw [if_neg d1, if_neg d2, if_neg d2]
        exact ⟨rfl, rfl, rfl⟩
      · obtain ⟨e1, e2, e3⟩ := a2 (by omega)
        have b2 := h2 n (by omega) (fun q => c q.symm)
        have d1 : pab (f n) < pkA f n := by rw [e1]; exact Int32.lt_iff_toInt_lt.mpr b2
        have d2 : pab (f n) ≤ pkA f n := by rw [e1]; exact Int32.le_iff_toInt_le.mpr (by omega)
        rw [if_pos d1, if_pos d2, if_pos d2]
        exact ⟨e1, e2, e3⟩
theorem all_pk : ∀ n, n < 256 → (nI (n % 128) ||| (128 * (if n < 128 then 0 else 1))) &&& 255 = nI n := by decide +kernel
-- the places of a word
theorem exb_bit (w : Nat → Int64) {q j : Nat} (hj : j < 128) : exb (cwOf w) q j = if bitB w (32 * q + j) = true then 1 else 0 := by
  have e : bt (cwOf w (q + j / 32)) (j % 32) = bitB w (32 * q + j) := by
    unfold cwOf
    show _ = bl (w ((32 * q + j) / 64)) ((32 * q + j) % 64)
    split
    · rename_i c
      rw [bl_l2i _ (Nat.mod_lt _ (by decide)), show (32 * q + j) / 64 = (q + j / 32) / 2 by omega, show (32 * q + j) % 64 = j % 32 by omega]
    · rename_i c
      rw [bl_l2i _ (Nat.mod_lt _ (by decide)), bl_shr _ (Nat.mod_lt _ (by decide)), show (32 * q + j) / 64 = (q + j / 32) / 2 by omega, show (32 * q + j) % 64 = 32 + j % 32 by omega]
  have e2 : bt (cwOf w (q + j / 32) >>> (nI (j % 32) &&& 31)) 0 = bitB w (32 * q + j) := by
    rw [← e, b_sshr _ (Nat.mod_lt _ (by decide)) _ (by decide), if_pos (by omega), Nat.add_zero]
  unfold exb
  rw [i1, e2]
def tau (tn : Nat → Int32) (p : Nat) : Nat := if tn p = 0 then 0 else 1
theorem cnt_sN (tn : Nat → Int32) : ∀ n, cnt tn n = sN (tau tn) n
  | 0 => rfl
  | n + 1 => by
    show cnt tn n + _ = sN (tau tn) n + tau tn n
    rw [cnt_sN tn n]
    rfl
def tt (tn : Nat → Int32) (i j : Nat) : Nat := tau tn (384 * i + j) + tau tn (384 * i + 128 + j) + tau tn (384 * i + 256 + j)
theorem tt_sum (tn : Nat → Int32) {i : Nat} (hi : i < 4) : sN (tt tn i) 128 ≤ cnt tn 1536 := by
  rw [cnt_sN, sN_add (fun j => tau tn (384 * i + j) + tau tn (384 * i + 128 + j)) (fun j => tau tn (384 * i + 256 + j)) (tt tn i) (fun _ => rfl) 128, sN_add (fun j => tau tn (384 * i + j)) (fun j => tau tn (384 * i + 128 + j)) _ (fun _ => rfl) 128]
  have h1 := sN_app (tau tn) (384 * i) 128
  have h2 := sN_app (tau tn) (384 * i + 128) 128
  have h3 := sN_app (tau tn) (384 * i + 256) 128
  rw [show 384 * i + 128 + 128 = 384 * i + 256 by omega] at h2
  rw [show 384 * i + 256 + 128 = 384 * i + 384 by omega] at h3
  have h4 := sN_mono (tau tn) (384 * i + 384) (1536 - (384 * i + 384))
  rw [show 384 * i + 384 + (1536 - (384 * i + 384)) = 1536 by omega] at h4
  omega
theorem sum3 (d x y z : Bool) : -3 ≤ (((if (d ^^ x) = true then (1 : Int32) else 0) + (if (d ^^ y) = true then 1 else 0)) + (if (d ^^ z) = true then 1 else 0)).toInt ∧ (((if (d ^^ x) = true then (1 : Int32) else 0) + (if (d ^^ y) = true then 1 else 0)) + (if (d ^^ z) = true then 1 else 0)).toInt ≤ 3 ∧ -((if x = true then (1 : Int) else 0) + (if y = true then 1 else 0) + (if z = true then 1 else 0)) ≤ (((if (d ^^ x) = true then (1 : Int32) else 0) + (if (d ^^ y) = true then 1 else 0)) + (if (d ^^ z) = true then 1 else 0)).toInt - (if d = true then 3 else 0) ∧ (((if (d ^^ x) = true then (1 : Int32) else 0) + (if (d ^^ y) = true then 1 else 0)) + (if (d ^^ z) = true then 1 else 0)).toInt - (if d = true then 3 else 0) ≤ (if x = true then (1 : Int) else 0) + (if y = true then 1 else 0) + (if z = true then 1 else 0) := by
  cases d <;> cases x <;> cases y <;> cases z <;> decide
theorem tau_i (tn : Nat → Int32) (p : Nat) : (if decide (tn p ≠ 0) = true then (1 : Int) else 0) = (tau tn p : Int) := by
  unfold tau
  by_cases c : tn p = 0
  · simp [c]
  · simp [c]
variable {lb a wr tn : Nat → Int32} {w : Nat → Int64} {hm hh : Int32} {h : Nat}
theorem dcl_ok (G : Good lb a wr tn w hm hh h) {i : Nat} (hi : i < 4) : dcl w i &&& 255 = wr i := by
  obtain ⟨-, g2, g3, -, -, g6, g7⟩ := G
  obtain ⟨n, hn, en⟩ : ∃ n : Nat, n < 256 ∧ wr i = nI n := ⟨_, Nat.mod_lt _ (by decide), (g2 i hi).symm.trans (pk_and (wr i) 8 (by decide))⟩
  obtain ⟨e, ee⟩ : ∃ e : Nat → Int32, e = exc (cwOf w) (12 * i) 2 := ⟨_, rfl⟩
  have hE : ∀ j, j < 128 → -3 ≤ (e j).toInt ∧ (e j).toInt ≤ 3 ∧ -(tt tn i j : Int) ≤ (e j).toInt - (if dueB (nI n) j = true then 3 else 0) ∧ (e j).toInt - (if dueB (nI n) j = true then 3 else 0) ≤ (tt tn i j : Int) := by
    intro j hj
    have p0 := g7 (384 * i + j) (by omega)
    have p1 := g7 (384 * i + 128 + j) (by omega)
    have p2 := g7 (384 * i + 256 + j) (by omega)
    rw [show (384 * i + j) / 384 = i by omega, show (384 * i + j) % 128 = j by omega, en] at p0
    rw [show (384 * i + 128 + j) / 384 = i by omega, show (384 * i + 128 + j) % 128 = j by omega, en] at p1
    rw [show (384 * i + 256 + j) / 384 = i by omega, show (384 * i + 256 + j) % 128 = j by omega, en] at p2
    have ej : e j = ((if (dueB (nI n) j ^^ decide (tn (384 * i + j) ≠ 0)) = true then (1 : Int32) else 0) + (if (dueB (nI n) j ^^ decide (tn (384 * i + 128 + j) ≠ 0)) = true then 1 else 0)) + (if (dueB (nI n) j ^^ decide (tn (384 * i + 256 + j) ≠ 0)) = true then 1 else 0) := by
      rw [ee]
      show (exb (cwOf w) (12 * i) j + exb (cwOf w) (12 * i + 4 * (0 + 1)) j) + exb (cwOf w) (12 * i + 4 * (1 + 1)) j = _
      rw [exb_bit w hj, exb_bit w hj, exb_bit w hj, show 32 * (12 * i) + j = 384 * i + j by omega, show 32 * (12 * i + 4 * (0 + 1)) + j = 384 * i + 128 + j by omega, show 32 * (12 * i + 4 * (1 + 1)) + j = 384 * i + 256 + j by omega, p0, p1, p2]
    have s := sum3 (dueB (nI n) j) (decide (tn (384 * i + j) ≠ 0)) (decide (tn (384 * i + 128 + j) ≠ 0)) (decide (tn (384 * i + 256 + j) ≠ 0))
    rw [← ej, tau_i, tau_i, tau_i] at s
    have et : ((tt tn i j : Nat) : Int) = (tau tn (384 * i + j) : Int) + (tau tn (384 * i + 128 + j) : Int) + (tau tn (384 * i + 256 + j) : Int) := by
      unfold tt
      omega
    rw [et]
    exact s
  have hA := hpw_Z (f := e) (F := fun j => (e j).toInt) (fun j hj => ⟨rfl, (hE j hj).1, (hE j hj).2.1⟩)
  have hadd := hpZ_add (f := fun j => if dueB (nI n) j = true then 3 else 0) (g := fun j => (e j).toInt - (if dueB (nI n) j = true then 3 else 0)) (e := fun j => (e j).toInt) (fun j hj => by omega) 7
  have habs := hpZ_abs (g := fun j => (e j).toInt - (if dueB (nI n) j = true then 3 else 0)) (t := tt tn i) (fun j hj => (hE j hj).2.2) 7
  have hsum := tt_sum tn hi
  obtain ⟨f, ef⟩ : ∃ f : Nat → Int32, f = dcf (cwOf w) i := ⟨_, rfl⟩
  have hT : ∀ j, j < 128 → ∃ x : Int, -40 ≤ x ∧ x ≤ 40 ∧ (f j).toInt = (if j = n % 128 then (if n < 128 then -192 else 192) else 0) + x := by
    intro j hj
    obtain ⟨c1, c2, c3⟩ := hA j hj
    have d1 := hadd j hj
    have d2 := habs j hj
    rw [apN_7] at d2
    rw [word_tr hn j hj] at d1
    rw [d1] at c1 c2 c3
    generalize hpZ (fun j => (e j).toInt - (if dueB (nI n) j = true then 3 else 0)) 7 j = x at *
    refine ⟨x, by omega, by omega, ?_⟩
    rw [ef]
    unfold dcf
    rw [← ee]
    unfold pkZ at c1 c2 c3
    by_cases j0 : j = 0
    · rw [if_pos j0] at c1 c2 c3 ⊢
      rw [j0] at c1
      rw [Int32.toInt_sub, c1, show (192 : Int32).toInt = 192 by decide, j0]
      rw [j0] at c2 c3
      rw [Int.bmod_eq_of_le (by omega) (by omega)]
      omega
    · rw [if_neg j0] at c1 ⊢
      rw [c1]
      omega
  have hp : n % 128 < 128 := Nat.mod_lt _ (by decide)
  have hpab : ∀ j, j < 128 → (pab (f j)).toInt = if (f j).toInt ≤ 0 then -(f j).toInt else (f j).toInt := by
    intro j hj
    obtain ⟨x, x1, x2, x3⟩ := hT j hj
    exact pab_val (by
      rw [x3]
      split
      · split <;> omega
      · omega)
  obtain ⟨x, x1, x2, x3⟩ := hT (n % 128) hp
  rw [if_pos rfl] at x3
  have hpp : 152 ≤ (pab (f (n % 128))).toInt := by
    rw [hpab _ hp, x3]
    by_cases c : n < 128
    · rw [if_pos c]
      split <;> omega
    · rw [if_neg c]
      split <;> omega
  have hmax := (pk_max (f := f) (p := n % 128) hp (fun j hj => by rw [hpab j hj]; split <;> omega) (fun j hj hne => by
    obtain ⟨y, y1, y2, y3⟩ := hT j hj
    rw [if_neg hne] at y3
    rw [hpab j hj, y3]
    split <;> omega) (by omega) 128 (by decide)).2 hp
  obtain ⟨-, m2, m3⟩ := hmax
  have hsg : (if pkV f 128 ≤ 0 then (0 : Int32) else 1) = if n < 128 then 0 else 1 := by
    rw [m2]
    have h0 : (0 : Int32).toInt = 0 := by decide
    by_cases c : n < 128
    · rw [if_pos c] at x3
      rw [if_pos c, if_pos (Int32.le_iff_toInt_le.mpr (by omega))]
    · rw [if_neg c] at x3
      rw [if_neg c, if_neg (fun q => by have := Int32.le_iff_toInt_le.mp q; omega)]
  unfold dcl
  rw [bp_b, ← ef]
  unfold pkR
  rw [m3, hsg, all_pk n hn, en]
theorem good_read (G : Good lb a wr tn w hm hh h) {u : Nat → Int32} (hu : ∀ i, i < 4 → u i = dcl w i) : rdz u 4 = pkd wr := by
  have e : ∀ i, i < 4 → u i &&& 255 = wr i := fun i hi => by rw [hu i hi]; exact dcl_ok G hi
  have hb : ∀ k, k < 4 → ∀ i, 8 ≤ i → bt (wr k) i = false := fun k hk i hi => hi255 (G.2.1 k hk) hi
  show (((((0 <<< ((8 : Int32) &&& 31)) ||| (u 0 &&& 255)) <<< ((8 : Int32) &&& 31) ||| (u 1 &&& 255)) <<< ((8 : Int32) &&& 31) ||| (u 2 &&& 255)) <<< ((8 : Int32) &&& 31)) ||| (u 3 &&& 255) = _
  unfold pkd
  rw [e 0 (by decide), e 1 (by decide), e 2 (by decide), e 3 (by decide)]
  apply b_ext
  intro i hi
  have z0 := hb 0 (by decide)
  have z1 := hb 1 (by decide)
  have z2 := hb 2 (by decide)
  have z3 := hb 3 (by decide)
  have hR : bt ((((wr 0 <<< ((24 : Int32) &&& 31)) ||| (wr 1 <<< ((16 : Int32) &&& 31))) ||| (wr 2 <<< ((8 : Int32) &&& 31))) ||| wr 3) i = ((((decide (24 ≤ i) && bt (wr 0) (i - 24)) || (decide (16 ≤ i) && bt (wr 1) (i - 16))) || (decide (8 ≤ i) && bt (wr 2) (i - 8))) || bt (wr 3) i) := by
    rw [b_or, b_or, b_or, b_shl24 _ hi, b_shl16 _ hi, b_shl8 _ hi]
  rw [hR, b_or, b_shl8 _ hi]
  by_cases c1 : i < 8
  · rw [decide_eq_false (show ¬ 8 ≤ i by omega), decide_eq_false (show ¬ 16 ≤ i by omega), decide_eq_false (show ¬ 24 ≤ i by omega)]
    simp
  · rw [b_or, b_shl8 _ (show i - 8 < 32 by omega), decide_eq_true (show 8 ≤ i by omega)]
    by_cases c2 : i < 16
    · rw [decide_eq_false (show ¬ 8 ≤ i - 8 by omega), decide_eq_false (show ¬ 16 ≤ i by omega), decide_eq_false (show ¬ 24 ≤ i by omega)]
      simp
    · rw [b_or, b_shl8 _ (show i - 8 - 8 < 32 by omega), decide_eq_true (show 8 ≤ i - 8 by omega), decide_eq_true (show 16 ≤ i by omega), z2 (i - 8) (by omega)]
      by_cases c3 : i < 24
      · rw [decide_eq_false (show ¬ 8 ≤ i - 8 - 8 by omega), decide_eq_false (show ¬ 24 ≤ i by omega), show i - 8 - 8 = i - 16 by omega]
        simp
      · rw [b_or, b_shl8 _ (show i - 8 - 8 - 8 < 32 by omega), b_0, decide_eq_true (show 8 ≤ i - 8 - 8 by omega), decide_eq_true (show 24 ≤ i by omega), z1 (i - 8 - 8) (by omega), z1 (i - 16) (by omega), show i - 8 - 8 - 8 = i - 24 by omega]
        simp
end
section
/-! Told; the law's own methods, the small ones -/
set_option maxRecDepth 100000
abbrev rm_X2_init : Room := { frames := 1, cells := 3, slots := 1544, locals := 12 }
set_option maxHeartbeats 4000000 in
set_option maxRecDepth 100000 in
/-- Told() -/
theorem metX2_init (l : Launch) (D : va_G) (dT : Nat → ClassId) (g0 : Nat) : ∀ sz : Nat, Met l yX2_init (ws_ yX2_init cX2_init 1 none) rm_X2_init (va_Pc [.ref g0] (PCx D dT sz [(g0, .inr (1, [.null, .null, .null, .int 0]))])) (va_Qv (fun (u : Nat × Nat × Nat) => True) (BCx D (fun u : Nat × Nat × Nat => [(g0, .inr (1, [.ref u.1, .ref u.2.1, .ref u.2.2, .int 0])), (u.1, .inl (dT 2, 4, .inl (fun _ => 0))), (u.2.1, .inl (dT 2, 4, .inl (fun _ => 0))), (u.2.2, .inl (dT 3, 1536, .inl (fun _ => 0)))]) (va_A [(g0, .inr (1, [.null, .null, .null, .int 0]))] sz)) (va_A [(g0, .inr (1, [.null, .null, .null, .int 0]))] sz)) 3 1544 (va_A [(g0, .inr (1, [.null, .null, .null, .int 0]))] sz) := by
  refine mt_of (Qc := fun A => (va_Qv (fun (u : Nat × Nat × Nat) => True) (BCx D (fun u : Nat × Nat × Nat => [(g0, .inr (1, [.ref u.1, .ref u.2.1, .ref u.2.2, .int 0])), (u.1, .inl (dT 2, 4, .inl (fun _ => 0))), (u.2.1, .inl (dT 2, 4, .inl (fun _ => 0))), (u.2.2, .inl (dT 3, 1536, .inl (fun _ => 0)))]) A) A)) (mc := 3) (ms := 1544) (by decide) (Nat.le_of_ble_eq_true rfl) ?_
  intro p e s m args below meth c hx hb hr hlocks hml hts hown hnm A hA H locs hP hD hK hS ls hl Q hQ
  have hown : s.vm.findClass RX2 = some m.cls := hown
  have hl : lv_has ls 1 [(0, .ref g0)] := hl
  have hin : meth.name = "<init>" := hnm
  refine lv_aload_n hx hb dX2_init_0 rfl (lv_at hl 0 rfl) ?_
  refine W.objInit hx hb hown (hts _ q39) (hts _ q12) (hts _ q13) rfl (by rw [hml]; exact hl.1) rfl dX2_init_1 (Nat.le_of_ble_eq_true rfl) (Nat.le_of_ble_eq_true rfl) ?_
  refine W.eq (g2 := F0 m 4 ls []) rfl ?_
  refine lv_aload_n hx hb dX2_init_4 rfl (lv_at hl 0 rfl) ?_
  refine lv_iconst (v := 4) hx hb dX2_init_5 (by decide) ?_
  refine nw_i (N := 4) hx hb hts hK hP hD hS hA (by decide) (by decide) (Nat.le_of_ble_eq_true rfl) (Nat.le_of_ble_eq_true rfl) (Nat.le_of_ble_eq_true rfl) dX2_init_6 (fun gl H hP hD hS => ?_)
  have hP : va_P D vwCl [(g0, .inr (1, [.null, .null, .null, .int 0])), (gl, .inl (dT 2, 4, .inl (fun _ => 0)))] H := hP
  have hD : va_D A [(g0, .inr (1, [.null, .null, .null, .int 0])), (gl, .inl (dT 2, 4, .inl (fun _ => 0)))] := hD
  refine va_putF (D := D) (ci := 1) (v := .ref gl) (ty := .array .int) (C := RX2) (T := TX2) (N := 4) hx hb hts in_X2 tyX2 tyX2_ok nmX2 hown hK hP hD hS 0 rfl rfl 0 (by decide) (hts _ q40) (fun _ h9 => h9) rfl hin rfl (by decide +kernel) rfl rfl (Nat.le_of_ble_eq_true rfl) dX2_init_8 (fun H locs hP hD hS => ?_)
  have hP : va_P D vwCl [(g0, .inr (1, [.ref gl, .null, .null, .int 0])), (gl, .inl (dT 2, 4, .inl (fun _ => 0)))] H := hP
  have hD : va_D A [(g0, .inr (1, [.ref gl, .null, .null, .int 0])), (gl, .inl (dT 2, 4, .inl (fun _ => 0)))] := hD
  refine lv_aload_n hx hb dX2_init_11 rfl (lv_at hl 0 rfl) ?_
  refine lv_iconst (v := 4) hx hb dX2_init_12 (by decide) ?_
  refine nw_i (N := 4) hx hb hts hK hP hD hS hA (by decide) (by decide) (Nat.le_of_ble_eq_true rfl) (Nat.le_of_ble_eq_true rfl) (Nat.le_of_ble_eq_true rfl) dX2_init_13 (fun gw H hP hD hS => ?_)
  have hP : va_P D vwCl [(g0, .inr (1, [.ref gl, .null, .null, .int 0])), (gl, .inl (dT 2, 4, .inl (fun _ => 0))), (gw, .inl (dT 2, 4, .inl (fun _ => 0)))] H := hP
  have hD : va_D A [(g0, .inr (1, [.ref gl, .null, .null, .int 0])), (gl, .inl (dT 2, 4, .inl (fun _ => 0))), (gw, .inl (dT 2, 4, .inl (fun _ => 0)))] := hD
  refine va_putF (D := D) (ci := 1) (v := .ref gw) (ty := .array .int) (C := RX2) (T := TX2) (N := 4) hx hb hts in_X2 tyX2 tyX2_ok nmX2 hown hK hP hD hS 0 rfl rfl 1 (by decide) (hts _ q42) (fun _ h9 => h9) rfl hin rfl (by decide +kernel) rfl rfl (Nat.le_of_ble_eq_true rfl) dX2_init_15 (fun H locs hP hD hS => ?_)
  have hP : va_P D vwCl [(g0, .inr (1, [.ref gl, .ref gw, .null, .int 0])), (gl, .inl (dT 2, 4, .inl (fun _ => 0))), (gw, .inl (dT 2, 4, .inl (fun _ => 0)))] H := hP
  have hD : va_D A [(g0, .inr (1, [.ref gl, .ref gw, .null, .int 0])), (gl, .inl (dT 2, 4, .inl (fun _ => 0))), (gw, .inl (dT 2, 4, .inl (fun _ => 0)))] := hD
  refine lv_aload_n hx hb dX2_init_18 rfl (lv_at hl 0 rfl) ?_
  refine lv_sipush (v := 1536) hx hb dX2_init_19 (by decide) ?_
  refine nw_z (N := 1536) hx hb hts hK hP hD hS hA (by decide) (by decide) (Nat.le_of_ble_eq_true rfl) (Nat.le_of_ble_eq_true rfl) (Nat.le_of_ble_eq_true rfl) dX2_init_22 (fun gt H hP hD hS => ?_)
  have hP : va_P D vwCl [(g0, .inr (1, [.ref gl, .ref gw, .null, .int 0])), (gl, .inl (dT 2, 4, .inl (fun _ => 0))), (gw, .inl (dT 2, 4, .inl (fun _ => 0))), (gt, .inl (dT 3, 1536, .inl (fun _ => 0)))] H := hP
  have hD : va_D A [(g0, .inr (1, [.ref gl, .ref gw, .null, .int 0])), (gl, .inl (dT 2, 4, .inl (fun _ => 0))), (gw, .inl (dT 2, 4, .inl (fun _ => 0))), (gt, .inl (dT 3, 1536, .inl (fun _ => 0)))] := hD
  refine va_put (D := D) (ci := 1) (v := .ref gt) (ty := .array .boolean) (C := RX2) (T := TX2) (N := 4) hx hb hts in_X2 tyX2 tyX2_ok nmX2 hown hK hP hD hS 0 rfl rfl 2 (by decide) (hts _ q44) (fun _ h9 => h9) rfl (by decide +kernel) rfl rfl (Nat.le_of_ble_eq_true rfl) dX2_init_24 (fun H locs hP hD hS => ?_)
  have hP : va_P D vwCl [(g0, .inr (1, [.ref gl, .ref gw, .ref gt, .int 0])), (gl, .inl (dT 2, 4, .inl (fun _ => 0))), (gw, .inl (dT 2, 4, .inl (fun _ => 0))), (gt, .inl (dT 3, 1536, .inl (fun _ => 0)))] H := hP
  have hD : va_D A [(g0, .inr (1, [.ref gl, .ref gw, .ref gt, .int 0])), (gl, .inl (dT 2, 4, .inl (fun _ => 0))), (gw, .inl (dT 2, 4, .inl (fun _ => 0))), (gt, .inl (dT 3, 1536, .inl (fun _ => 0)))] := hD
  rw [hQ]
  exact rt_v hx hb hr hlocks (gl, gw, gt) trivial hP hD hS (Nat.le_of_ble_eq_true rfl) (Nat.le_of_ble_eq_true rfl) dX2_init_27
abbrev rm_X0_due : Room := { frames := 0, cells := 0, slots := 0, locals := 0 }
set_option maxHeartbeats 4000000 in
set_option maxRecDepth 100000 in
/-- due(letter, j) -/
theorem metX0_due (l : Launch) (D : va_G) (dT : Nat → ClassId) (x j : Int32) : ∀ sz : Nat, Met l yX0_due (ws_ yX0_due cX0_due 4 (some .int)) rm_X0_due (va_Pc [.int x, .int j] (PCx D dT sz [])) (va_Qi (fun (r : Int32) (u : Unit) => r = duL x j 7) (BCx D (fun u : Unit => []) (va_A [] sz)) (va_A [] sz)) 0 0 (va_A [] sz) := by
  refine mt_of (Qc := fun A => (va_Qi (fun (r : Int32) (u : Unit) => r = duL x j 7) (BCx D (fun u : Unit => []) A) A)) (mc := 0) (ms := 0) (by decide) (Nat.le_of_ble_eq_true rfl) ?_
  intro p e s m args below meth c hx hb hr hlocks hml hts hown hnm A hA H locs hP hD hK hS ls hl Q hQ
  have hown : s.vm.findClass RX0 = some m.cls := hown
  have hl : lv_has ls 4 [(0, .int x), (1, .int j)] := hl
  refine lv_iload_n hx hb dX0_due_0 rfl (lv_at hl 0 rfl) ?_
  refine lv_bipush (v := 7) hx hb dX0_due_1 (by decide) ?_
  refine lv_ishr hx hb dX0_due_3 ?_
  refine lv_topi (fun x2 ex2 => ?_)
  refine lv_istore_n (lv' := [(2, .int x2), (0, .int x), (1, .int j)]) hx hb dX0_due_4 rfl hl (by decide) rfl (fun ls hl => ?_)
  refine lv_iconst (v := 0) hx hb dX0_due_5 (by decide) ?_
  refine lv_istore_n (lv' := [(3, .int 0), (2, .int x2), (0, .int x), (1, .int j)]) hx hb dX0_due_6 rfl hl (by decide) rfl (fun ls hl => ?_)
  have outer : ∀ (n : Nat) (k : Nat) (x2 x3 : Int32) (H : Heap) (locs : List Loc) (ls : Array Slot), k ≤ 7 → 8 ≤ k + n → x3 = nI k → x2 = duL x j k → va_P D vwCl [] H → va_D A [] → va_S A s.heap H locs → lv_has ls 4 [(0, .int x), (1, .int j), (2, .int x2), (3, .int x3)] → W p l e rm_X0_due s m args below meth c H locs 0 0 Q (F0 m 7 ls []) := by
    intro n
    induction n with
    | zero =>
      intro k x2 x3 H locs ls h1 h2 h3 h4
      exact absurd h2 (by omega)
    | succ n ih =>
      intro k x2 x3 H locs ls h1 h2 h3 h4 hP hD hS hl
      refine lv_iload_n hx hb dX0_due_7 rfl (lv_at hl 3 rfl) ?_
      refine lv_bipush (v := 7) hx hb dX0_due_8 (by decide) ?_
      refine lv_icmp_ge (tgt := 31) hx hb dX0_due_10 (by decide) (fun c10 => ?_) (fun c10 => ?_)
      · have hk : k = 7 := by have := ge_t c10 h3 (show (7 : Int32) = nI 7 from rfl) (by omega) (by omega); omega
        subst hk
        refine lv_iload_n hx hb dX0_due_31 rfl (lv_at hl 2 rfl) ?_
        rw [hQ]
        exact rt_i hx hb hr hlocks () h4 hP hD hS (Nat.le_of_ble_eq_true rfl) (Nat.le_of_ble_eq_true rfl) dX0_due_32
      · have hk : k < 7 := ge_f c10 h3 (show (7 : Int32) = nI 7 from rfl) (by omega) (by omega)
        refine lv_iload_n hx hb dX0_due_13 rfl (lv_at hl 2 rfl) ?_
        refine lv_iload_n hx hb dX0_due_14 rfl (lv_at hl 0 rfl) ?_
        refine lv_iload_n hx hb dX0_due_15 rfl (lv_at hl 3 rfl) ?_
        refine lv_ishr hx hb dX0_due_16 ?_
        refine lv_iload_n hx hb dX0_due_17 rfl (lv_at hl 1 rfl) ?_
        refine lv_iload_n hx hb dX0_due_18 rfl (lv_at hl 3 rfl) ?_
        refine lv_ishr hx hb dX0_due_19 ?_
        refine lv_iand hx hb dX0_due_20 ?_
        refine lv_iconst (v := 1) hx hb dX0_due_21 (by decide) ?_
        refine lv_iand hx hb dX0_due_22 ?_
        refine lv_ixor hx hb dX0_due_23 ?_
        refine lv_topi (fun x2b ex2b => ?_)
        refine lv_istore_n (lv' := [(2, .int x2b), (0, .int x), (1, .int j), (3, .int x3)]) hx hb dX0_due_24 rfl hl (by decide) rfl (fun ls hl => ?_)
        obtain ⟨x3b, ex3b⟩ : ∃ y : Int32, y = x3 + 1 := ⟨_, rfl⟩
        refine lv_iinc (v := x3b) (lv' := [(3, .int x3b), (2, .int x2b), (0, .int x), (1, .int j)]) hx hb dX0_due_25 hl (k := 3) rfl (by rw [ex3b]; rfl) (by decide) rfl (fun ls hl => ?_)
        refine lv_goto (tgt := 7) hx hb dX0_due_28 (by decide) ?_
        exact ih (k + 1) x2b x3b _ _ _ (by omega) (by omega) (by rw [ex3b]; exact ad1 h3) (by rw [ex2b, h4, h3]; rfl) hP hD hS (lv_sub hl [2, 3, 1, 0] rfl)
  exact outer 8 0 x2 0 _ _ _ (by omega) (by omega) rfl ex2 hP hD hS (lv_sub hl [2, 3, 1, 0] rfl)
abbrev rm_X0_bit : Room := { frames := 1, cells := 0, slots := 0, locals := 30 }
set_option maxHeartbeats 4000000 in
set_option maxRecDepth 100000 in
/-- bit(t, p) -/
theorem metX0_bit (l : Launch) (D : va_G) (dT : Nat → ClassId) (g0 gl gw gt : Nat) (a wr tn : Nat → Int32) (hh : Int32) (p9 : Nat) (hp9 : p9 < 1536) (x : Int32) (hx9 : x = nI p9) : ∀ sz : Nat, Met l yX0_bit (ws_ yX0_bit cX0_bit 2 (some .int)) rm_X0_bit (va_Pc [.ref g0, .int x] (PCx D dT sz [(g0, .inr (1, [.ref gl, .ref gw, .ref gt, .int hh])), (gl, .inl (dT 2, 4, .inl a)), (gw, .inl (dT 2, 4, .inl wr)), (gt, .inl (dT 3, 1536, .inl tn))])) (va_Qi (fun (r : Int32) (u : Unit) => r = tbt wr tn p9) (BCx D (fun u : Unit => [(g0, .inr (1, [.ref gl, .ref gw, .ref gt, .int hh])), (gl, .inl (dT 2, 4, .inl a)), (gw, .inl (dT 2, 4, .inl wr)), (gt, .inl (dT 3, 1536, .inl tn))]) (va_A [(g0, .inr (1, [.ref gl, .ref gw, .ref gt, .int hh])), (gl, .inl (dT 2, 4, .inl a)), (gw, .inl (dT 2, 4, .inl wr)), (gt, .inl (dT 3, 1536, .inl tn))] sz)) (va_A [(g0, .inr (1, [.ref gl, .ref gw, .ref gt, .int hh])), (gl, .inl (dT 2, 4, .inl a)), (gw, .inl (dT 2, 4, .inl wr)), (gt, .inl (dT 3, 1536, .inl tn))] sz)) 0 0 (va_A [(g0, .inr (1, [.ref gl, .ref gw, .ref gt, .int hh])), (gl, .inl (dT 2, 4, .inl a)), (gw, .inl (dT 2, 4, .inl wr)), (gt, .inl (dT 3, 1536, .inl tn))] sz) := by
  refine mt_of (Qc := fun A => (va_Qi (fun (r : Int32) (u : Unit) => r = tbt wr tn p9) (BCx D (fun u : Unit => [(g0, .inr (1, [.ref gl, .ref gw, .ref gt, .int hh])), (gl, .inl (dT 2, 4, .inl a)), (gw, .inl (dT 2, 4, .inl wr)), (gt, .inl (dT 3, 1536, .inl tn))]) A) A)) (mc := 0) (ms := 0) (by decide) (Nat.le_of_ble_eq_true rfl) ?_
  intro p e s m args below meth c hx hb hr hlocks hml hts hown hnm A hA H locs hP hD hK hS ls hl Q hQ
  have hown : s.vm.findClass RX0 = some m.cls := hown
  have hl : lv_has ls 2 [(0, .ref g0), (1, .int x)] := hl
  have m0 : x / 384 = nI (p9 / 384) := by rw [hx9]; exact pk_div (d := 384) (by omega) (by decide) (by decide)
  have m1 : x - x / 128 * 128 = nI (p9 % 128) := by rw [hx9]; exact pk_rem (d := 128) (by omega) (by decide) (by decide)
  refine lv_aload_n hx hb dX0_bit_0 rfl (lv_at hl 0 rfl) ?_
  refine va_get (D := D) (ci := 1) (v := .ref gw) (C := RX2) (T := TX2) (N := 4) hx hb hts in_X2 hown hK hP 0 rfl rfl 1 (by decide) (hts _ q43) (fun _ h9 => h9) rfl dX0_bit_1 ?_
  refine lv_iload_n hx hb dX0_bit_4 rfl (lv_at hl 1 rfl) ?_
  refine lv_sipush (v := 384) hx hb dX0_bit_5 (by decide) ?_
  refine lv_idiv hx hb dX0_bit_8 (by decide) ?_
  refine va_iald hx hb hK hP 2 2 rfl rfl (vin m0 (by omega) (by decide)) dX0_bit_9 ?_
  refine lv_iload_n hx hb dX0_bit_10 rfl (lv_at hl 1 rfl) ?_
  refine lv_sipush (v := 128) hx hb dX0_bit_11 (by decide) ?_
  refine lv_irem hx hb dX0_bit_14 (by decide) ?_
  refine cl_Si (As := [.int (wr (x / 384).toNatClampNeg), .int (x - x / 128 * 128)]) (rest := []) (wr := [(g0, .inr (1, [.ref gl, .ref gw, .ref gt, .int hh])), (gl, .inl (dT 2, 4, .inl a)), (gw, .inl (dT 2, 4, .inl wr)), (gt, .inl (dT 3, 1536, .inl tn))]) (metX0_due l D dT (wr (x / 384).toNatClampNeg) (x - x / 128 * 128)) ⟨hx, hb, hml, hown, hts⟩ (va_cwS 2 hts (lw_S q104 q105 q0 q106) rfl rfl rfl (by decide +kernel) ⟨Nat.le_of_ble_eq_true rfl, Nat.le_of_ble_eq_true rfl⟩) hP hD hS hK hA [] [0, 1, 2, 3] rfl rfl rfl rfl (by decide) rfl hl.1 rfl (Nat.le_of_ble_eq_true rfl) dX0_bit_15 ⟨Nat.le_of_ble_eq_true rfl, Nat.le_of_ble_eq_true rfl⟩ (fun r1 _u H locs hr1 hP hD hS => ?_)
  have hP : va_P D vwCl [(g0, .inr (1, [.ref gl, .ref gw, .ref gt, .int hh])), (gl, .inl (dT 2, 4, .inl a)), (gw, .inl (dT 2, 4, .inl wr)), (gt, .inl (dT 3, 1536, .inl tn))] H := hP
  have hD : va_D A [(g0, .inr (1, [.ref gl, .ref gw, .ref gt, .int hh])), (gl, .inl (dT 2, 4, .inl a)), (gw, .inl (dT 2, 4, .inl wr)), (gt, .inl (dT 3, 1536, .inl tn))] := hD
  refine lv_aload_n hx hb dX0_bit_18 rfl (lv_at hl 0 rfl) ?_
  refine va_get (D := D) (ci := 1) (v := .ref gt) (C := RX2) (T := TX2) (N := 4) hx hb hts in_X2 hown hK hP 0 rfl rfl 2 (by decide) (hts _ q45) (fun _ h9 => h9) rfl dX0_bit_19 ?_
  refine lv_iload_n hx hb dX0_bit_22 rfl (lv_at hl 1 rfl) ?_
  refine va_zald hx hb hK hP 3 3 rfl rfl (vin hx9 hp9 (by decide)) dX0_bit_23 ?_
  rw [cln m0 (by omega), m1] at hr1
  have K1 : ∀ v : Int32, v = (if tn p9 = 0 then 0 else 1) → W p l e rm_X0_bit s m args below meth c H locs 0 0 Q (F0 m 32 ls [.int v, .int r1]) := by
    intro v hv
    refine lv_ixor hx hb dX0_bit_32 ?_
    refine lv_topi (fun rr err => ?_)
    rw [hQ]
    exact rt_i hx hb hr hlocks () (by rw [err, hr1, hv]; rfl) hP hD hS (Nat.le_of_ble_eq_true rfl) (Nat.le_of_ble_eq_true rfl) dX0_bit_33
  refine lv_if_eq (tgt := 31) hx hb dX0_bit_24 (by decide) (fun c24 => ?_) (fun c24 => ?_)
  · refine lv_iconst (v := 0) hx hb dX0_bit_31 (by decide) ?_
    exact K1 _ (by rw [cln hx9 (by omega)] at c24; exact (if_pos c24).symm)
  · refine lv_iconst (v := 1) hx hb dX0_bit_27 (by decide) ?_
    refine lv_goto (tgt := 32) hx hb dX0_bit_28 (by decide) ?_
    exact K1 _ (by rw [cln hx9 (by omega)] at c24; exact (if_neg c24).symm)
abbrev rm_X0_packed : Room := { frames := 0, cells := 0, slots := 0, locals := 0 }
set_option maxHeartbeats 4000000 in
set_option maxRecDepth 100000 in
/-- packed(letters) -/
theorem metX0_packed (l : Launch) (D : va_G) (dT : Nat → ClassId) (b0 : Nat) (f : Nat → Int32) : ∀ sz : Nat, Met l yX0_packed (ws_ yX0_packed cX0_packed 1 (some .int)) rm_X0_packed (va_Pc [.ref b0] (PCx D dT sz [(b0, .inl (dT 2, 4, .inl f))])) (va_Qi (fun (r : Int32) (u : Unit) => r = pkd f) (BCx D (fun u : Unit => [(b0, .inl (dT 2, 4, .inl f))]) (va_A [(b0, .inl (dT 2, 4, .inl f))] sz)) (va_A [(b0, .inl (dT 2, 4, .inl f))] sz)) 0 0 (va_A [(b0, .inl (dT 2, 4, .inl f))] sz) := by
  refine mt_of (Qc := fun A => (va_Qi (fun (r : Int32) (u : Unit) => r = pkd f) (BCx D (fun u : Unit => [(b0, .inl (dT 2, 4, .inl f))]) A) A)) (mc := 0) (ms := 0) (by decide) (Nat.le_of_ble_eq_true rfl) ?_
  intro p e s m args below meth c hx hb hr hlocks hml hts hown hnm A hA H locs hP hD hK hS ls hl Q hQ
  have hown : s.vm.findClass RX0 = some m.cls := hown
  have hl : lv_has ls 1 [(0, .ref b0)] := hl
  refine lv_aload_n hx hb dX0_packed_0 rfl (lv_at hl 0 rfl) ?_
  refine lv_iconst (v := 0) hx hb dX0_packed_1 (by decide) ?_
  refine va_iald hx hb hK hP 0 2 rfl rfl (vin (k := 0) rfl (by decide) (by decide)) dX0_packed_2 ?_
  refine lv_bipush (v := 24) hx hb dX0_packed_3 (by decide) ?_
  refine lv_ishl hx hb dX0_packed_5 ?_
  refine lv_aload_n hx hb dX0_packed_6 rfl (lv_at hl 0 rfl) ?_
  refine lv_iconst (v := 1) hx hb dX0_packed_7 (by decide) ?_
  refine va_iald hx hb hK hP 0 2 rfl rfl (vin (k := 1) rfl (by decide) (by decide)) dX0_packed_8 ?_
  refine lv_bipush (v := 16) hx hb dX0_packed_9 (by decide) ?_
  refine lv_ishl hx hb dX0_packed_11 ?_
  refine lv_ior hx hb dX0_packed_12 ?_
  refine lv_aload_n hx hb dX0_packed_13 rfl (lv_at hl 0 rfl) ?_
  refine lv_iconst (v := 2) hx hb dX0_packed_14 (by decide) ?_
  refine va_iald hx hb hK hP 0 2 rfl rfl (vin (k := 2) rfl (by decide) (by decide)) dX0_packed_15 ?_
  refine lv_bipush (v := 8) hx hb dX0_packed_16 (by decide) ?_
  refine lv_ishl hx hb dX0_packed_18 ?_
  refine lv_ior hx hb dX0_packed_19 ?_
  refine lv_aload_n hx hb dX0_packed_20 rfl (lv_at hl 0 rfl) ?_
  refine lv_iconst (v := 3) hx hb dX0_packed_21 (by decide) ?_
  refine va_iald hx hb hK hP 0 2 rfl rfl (vin (k := 3) rfl (by decide) (by decide)) dX0_packed_22 ?_
  refine lv_ior hx hb dX0_packed_23 ?_
  refine lv_topi (fun rr err => ?_)
  rw [hQ]
  exact rt_i hx hb hr hlocks () (by rw [err, cl_0, cl_1, cl_2, cl_3]; rfl) hP hD hS (Nat.le_of_ble_eq_true rfl) (Nat.le_of_ble_eq_true rfl) dX0_packed_24
abbrev rm_X0_harm : Room := { frames := 1, cells := 0, slots := 0, locals := 40 }
set_option maxHeartbeats 4000000 in
set_option maxRecDepth 100000 in
/-- harm(d, t, at) -/
theorem metX0_harm (l : Launch) (D : va_G) (dT : Nat → ClassId) (h0 ql qw qr : Nat) (lb : Nat → Int32) (w : Nat → Int64) (rb : Nat → Int32) (hm : Int32) (g0 gl gw gt : Nat) (a wr tn : Nat → Int32) (hh : Int32) (h : Nat) (hG : Good lb a wr tn w hm hh h) (at9 : Int32) : ∀ sz : Nat, Met l yX0_harm (ws_ yX0_harm cX0_harm 5 (some .boolean)) rm_X0_harm (va_Pc [.ref h0, .ref g0, .int at9] (PCx D dT sz [(h0, .inr (0, [.ref ql, .ref qw, .ref qr, .int hm])), (ql, .inl (dT 0, 4, .inl lb)), (qw, .inl (dT 1, 24, .inr (.inl w))), (qr, .inl (dT 0, 4, .inl rb)), (g0, .inr (1, [.ref gl, .ref gw, .ref gt, .int hh])), (gl, .inl (dT 2, 4, .inl a)), (gw, .inl (dT 2, 4, .inl wr)), (gt, .inl (dT 3, 1536, .inl tn))])) (va_Qi (fun (r : Int32) (u : (Nat → Int64) × Int32 × (Nat → Int32) × Int32) => r = 1 ∧ Good lb a wr u.2.2.1 u.1 u.2.1 u.2.2.2 (min (h + 1) 40)) (BCx D (fun u : (Nat → Int64) × Int32 × (Nat → Int32) × Int32 => [(h0, .inr (0, [.ref ql, .ref qw, .ref qr, .int u.2.1])), (ql, .inl (dT 0, 4, .inl lb)), (qw, .inl (dT 1, 24, .inr (.inl u.1))), (qr, .inl (dT 0, 4, .inl rb)), (g0, .inr (1, [.ref gl, .ref gw, .ref gt, .int u.2.2.2])), (gl, .inl (dT 2, 4, .inl a)), (gw, .inl (dT 2, 4, .inl wr)), (gt, .inl (dT 3, 1536, .inl u.2.2.1))]) (va_A [(h0, .inr (0, [.ref ql, .ref qw, .ref qr, .int hm])), (ql, .inl (dT 0, 4, .inl lb)), (qw, .inl (dT 1, 24, .inr (.inl w))), (qr, .inl (dT 0, 4, .inl rb)), (g0, .inr (1, [.ref gl, .ref gw, .ref gt, .int hh])), (gl, .inl (dT 2, 4, .inl a)), (gw, .inl (dT 2, 4, .inl wr)), (gt, .inl (dT 3, 1536, .inl tn))] sz)) (va_A [(h0, .inr (0, [.ref ql, .ref qw, .ref qr, .int hm])), (ql, .inl (dT 0, 4, .inl lb)), (qw, .inl (dT 1, 24, .inr (.inl w))), (qr, .inl (dT 0, 4, .inl rb)), (g0, .inr (1, [.ref gl, .ref gw, .ref gt, .int hh])), (gl, .inl (dT 2, 4, .inl a)), (gw, .inl (dT 2, 4, .inl wr)), (gt, .inl (dT 3, 1536, .inl tn))] sz)) 0 0 (va_A [(h0, .inr (0, [.ref ql, .ref qw, .ref qr, .int hm])), (ql, .inl (dT 0, 4, .inl lb)), (qw, .inl (dT 1, 24, .inr (.inl w))), (qr, .inl (dT 0, 4, .inl rb)), (g0, .inr (1, [.ref gl, .ref gw, .ref gt, .int hh])), (gl, .inl (dT 2, 4, .inl a)), (gw, .inl (dT 2, 4, .inl wr)), (gt, .inl (dT 3, 1536, .inl tn))] sz) := by
  refine mt_of (Qc := fun A => (va_Qi (fun (r : Int32) (u : (Nat → Int64) × Int32 × (Nat → Int32) × Int32) => r = 1 ∧ Good lb a wr u.2.2.1 u.1 u.2.1 u.2.2.2 (min (h + 1) 40)) (BCx D (fun u : (Nat → Int64) × Int32 × (Nat → Int32) × Int32 => [(h0, .inr (0, [.ref ql, .ref qw, .ref qr, .int u.2.1])), (ql, .inl (dT 0, 4, .inl lb)), (qw, .inl (dT 1, 24, .inr (.inl u.1))), (qr, .inl (dT 0, 4, .inl rb)), (g0, .inr (1, [.ref gl, .ref gw, .ref gt, .int u.2.2.2])), (gl, .inl (dT 2, 4, .inl a)), (gw, .inl (dT 2, 4, .inl wr)), (gt, .inl (dT 3, 1536, .inl u.2.2.1))]) A) A)) (mc := 0) (ms := 0) (by decide) (Nat.le_of_ble_eq_true rfl) ?_
  intro p e s m args below meth c hx hb hr hlocks hml hts hown hnm A hA H locs hP hD hK hS ls hl Q hQ
  have hown : s.vm.findClass RX0 = some m.cls := hown
  have hl : lv_has ls 5 [(0, .ref h0), (1, .ref g0), (2, .int at9)] := hl
  have hle : h ≤ 40 := hG.2.2.1
  have ehm : hm = nI h := hG.2.2.2.1
  have ehh : hh = nI h := hG.2.2.2.2.1
  refine lv_aload_n hx hb dX0_harm_0 rfl (lv_at hl 1 rfl) ?_
  refine va_get (D := D) (ci := 1) (v := .int hh) (C := RX2) (T := TX2) (N := 4) hx hb hts in_X2 hown hK hP 4 rfl rfl 3 (by decide) (hts _ q46) (fun _ h9 => h9) rfl dX0_harm_1 ?_
  refine lv_bipush (v := 40) hx hb dX0_harm_4 (by decide) ?_
  refine lv_icmp_ge (tgt := 13) hx hb dX0_harm_6 (by decide) (fun c6 => ?_) (fun c6 => ?_)
  · have hh40 : h = 40 := by have := ge_t c6 ehh (show (40 : Int32) = nI 40 from rfl) (by omega) (by omega); omega
    refine lv_iconst (v := 0) hx hb dX0_harm_13 (by decide) ?_
    refine lv_istore_n (lv' := [(3, .int 0), (0, .ref h0), (1, .ref g0), (2, .int at9)]) hx hb dX0_harm_14 rfl hl (by decide) rfl (fun ls hl => ?_)
    refine lv_iload_n hx hb dX0_harm_15 rfl (lv_at hl 0 rfl) ?_
    refine lv_if_eq (tgt := 61) hx hb dX0_harm_16 (by decide) (fun c16 => ?_) (fun c16 => ?_)
    · refine lv_aload_n hx hb dX0_harm_61 rfl (lv_at hl 1 rfl) ?_
      refine lv_iload_n hx hb dX0_harm_62 rfl (lv_at hl 3 rfl) ?_
      refine cl_Vi (As := [.int at9]) (rest := []) (wr := [(g0, .inr (1, [.ref gl, .ref gw, .ref gt, .int hh])), (gl, .inl (dT 2, 4, .inl a)), (gw, .inl (dT 2, 4, .inl wr)), (gt, .inl (dT 3, 1536, .inl tn))]) (metX1_harm l D dT h0 ql qw qr lb w rb hm at9) ⟨hx, hb, hml, hown, hts⟩ (cwV 1 hts (lw_V q29 q30 q31 q1 q32) rfl rfl rfl (by decide +kernel) ⟨Nat.le_of_ble_eq_true rfl, Nat.le_of_ble_eq_true rfl⟩) (ci := 0) rfl rfl hP hD hS hK hA [0, 1, 2, 3] [4, 5, 6, 7] rfl rfl rfl rfl (by decide) rfl hl.1 rfl (Nat.le_of_ble_eq_true rfl) dX0_harm_63 ⟨Nat.le_of_ble_eq_true rfl, Nat.le_of_ble_eq_true rfl⟩ (fun r1 u H locs hw1 hP hD hS => ?_)
      have hP : va_P D vwCl [(g0, .inr (1, [.ref gl, .ref gw, .ref gt, .int hh])), (gl, .inl (dT 2, 4, .inl a)), (gw, .inl (dT 2, 4, .inl wr)), (gt, .inl (dT 3, 1536, .inl tn)), (h0, .inr (0, [.ref ql, .ref qw, .ref qr, .int u.2])), (ql, .inl (dT 0, 4, .inl lb)), (qw, .inl (dT 1, 24, .inr (.inl u.1))), (qr, .inl (dT 0, 4, .inl rb))] H := hP
      have hD : va_D A [(g0, .inr (1, [.ref gl, .ref gw, .ref gt, .int hh])), (gl, .inl (dT 2, 4, .inl a)), (gw, .inl (dT 2, 4, .inl wr)), (gt, .inl (dT 3, 1536, .inl tn)), (h0, .inr (0, [.ref ql, .ref qw, .ref qr, .int u.2])), (ql, .inl (dT 0, 4, .inl lb)), (qw, .inl (dT 1, 24, .inr (.inl u.1))), (qr, .inl (dT 0, 4, .inl rb))] := hD
      refine lv_iload_n hx hb dX0_harm_66 rfl (lv_at hl 0 rfl) ?_
      have hge : 40 ≤ hm := by rw [ehm, hh40]; decide
      obtain ⟨hr1, hu1, hu2⟩ := hw1.1 hge
      refine lv_icmp_ne (tgt := 74) hx hb dX0_harm_67 (by decide) (fun c67 => ?_) (fun c67 => ?_)
      · exact absurd hr1 c67
      · refine lv_iconst (v := 1) hx hb dX0_harm_70 (by decide) ?_
        refine lv_goto (tgt := 75) hx hb dX0_harm_71 (by decide) ?_
        rw [hQ]
        exact rt_z hx hb hr hlocks (Or.inr rfl) (u.1, u.2, tn, hh) ⟨rfl, by rw [hu1, hu2, show min (h + 1) 40 = h by omega]; exact hG⟩ (hP.sub [4, 5, 6, 7, 0, 1, 2, 3] rfl) (hD.sub [4, 5, 6, 7, 0, 1, 2, 3] (by decide) rfl) hS (Nat.le_of_ble_eq_true rfl) (Nat.le_of_ble_eq_true rfl) dX0_harm_75
    · exact absurd rfl c16
  · have hlt : h < 40 := ge_f c6 ehh (show (40 : Int32) = nI 40 from rfl) (by omega) (by omega)
    refine lv_iconst (v := 1) hx hb dX0_harm_9 (by decide) ?_
    refine lv_goto (tgt := 14) hx hb dX0_harm_10 (by decide) ?_
    refine lv_istore_n (lv' := [(3, .int 1), (0, .ref h0), (1, .ref g0), (2, .int at9)]) hx hb dX0_harm_14 rfl hl (by decide) rfl (fun ls hl => ?_)
    refine lv_iload_n hx hb dX0_harm_15 rfl (lv_at hl 0 rfl) ?_
    refine lv_if_eq (tgt := 61) hx hb dX0_harm_16 (by decide) (fun c16 => ?_) (fun c16 => ?_)
    · exact absurd c16 (by decide)
    · have hk := kN_lt at9
      refine lv_iload_n hx hb dX0_harm_19 rfl (lv_at hl 3 rfl) ?_
      refine lv_ldc hx hb hown (hts _ q67) dX0_harm_20 ?_
      refine lv_iand hx hb dX0_harm_22 ?_
      refine lv_sipush (v := 1536) hx hb dX0_harm_23 (by decide) ?_
      refine lv_irem hx hb dX0_harm_26 (by decide) ?_
      refine lv_topi (fun x4 ex4 => ?_)
      refine lv_istore (lv' := [(4, .int x4), (3, .int 1), (0, .ref h0), (1, .ref g0), (2, .int at9)]) hx hb dX0_harm_27 hl (by decide) rfl (fun ls hl => ?_)
      have hx4 : x4 = nI (kN at9) := by rw [ex4]; exact kN_rem at9 rfl rfl
      refine lv_aload_n hx hb dX0_harm_29 rfl (lv_at hl 3 rfl) ?_
      refine va_get (D := D) (ci := 1) (v := .ref gt) (C := RX2) (T := TX2) (N := 4) hx hb hts in_X2 hown hK hP 4 rfl rfl 2 (by decide) (hts _ q45) (fun _ h9 => h9) rfl dX0_harm_30 ?_
      refine lv_iload hx hb dX0_harm_33 (lv_at hl 0 rfl) ?_
      refine lv_aload_n hx hb dX0_harm_35 rfl (lv_at hl 3 rfl) ?_
      refine va_get (D := D) (ci := 1) (v := .ref gt) (C := RX2) (T := TX2) (N := 4) hx hb hts in_X2 hown hK hP 4 rfl rfl 2 (by decide) (hts _ q45) (fun _ h9 => h9) rfl dX0_harm_36 ?_
      refine lv_iload hx hb dX0_harm_39 (lv_at hl 0 rfl) ?_
      refine va_zald hx hb hK hP 7 3 rfl rfl (vin hx4 hk (by decide)) dX0_harm_41 ?_
      have K1 : ∀ v : Int32, v = (if tn (kN at9) = 0 then 1 else 0) → W p l e rm_X0_harm s m args below meth c H locs 0 0 Q (F0 m 50 ls [.int v, .int x4, .ref gt]) := by
        intro v hv
        have nv : vp_nar .boolean v = v := by rw [hv]; by_cases c : tn (kN at9) = 0 <;> simp only [c, if_pos, if_neg, if_true, if_false, not_false_iff] <;> rfl
        refine va_zast hx hb hK hP hD hS 7 3 rfl rfl (vin hx4 hk (by decide)) dX0_harm_50 (fun H locs hP hD hS => ?_)
        obtain ⟨tn1, etn1⟩ : ∃ g : Nat → Int32, g = upd tn (x4 : Int32).toNatClampNeg (vp_nar .boolean v) := ⟨_, rfl⟩
        have hP : va_P D vwCl [(h0, .inr (0, [.ref ql, .ref qw, .ref qr, .int hm])), (ql, .inl (dT 0, 4, .inl lb)), (qw, .inl (dT 1, 24, .inr (.inl w))), (qr, .inl (dT 0, 4, .inl rb)), (g0, .inr (1, [.ref gl, .ref gw, .ref gt, .int hh])), (gl, .inl (dT 2, 4, .inl a)), (gw, .inl (dT 2, 4, .inl wr)), (gt, .inl (dT 3, 1536, .inl tn1))] H := by rw [etn1]; exact hP
        have hD : va_D A [(h0, .inr (0, [.ref ql, .ref qw, .ref qr, .int hm])), (ql, .inl (dT 0, 4, .inl lb)), (qw, .inl (dT 1, 24, .inr (.inl w))), (qr, .inl (dT 0, 4, .inl rb)), (g0, .inr (1, [.ref gl, .ref gw, .ref gt, .int hh])), (gl, .inl (dT 2, 4, .inl a)), (gw, .inl (dT 2, 4, .inl wr)), (gt, .inl (dT 3, 1536, .inl tn1))] := by rw [etn1]; exact hD
        refine lv_aload_n hx hb dX0_harm_51 rfl (lv_at hl 3 rfl) ?_
        refine lv_dup hx hb dX0_harm_52 rfl ?_
        refine va_get (D := D) (ci := 1) (v := .int hh) (C := RX2) (T := TX2) (N := 4) hx hb hts in_X2 hown hK hP 4 rfl rfl 3 (by decide) (hts _ q46) (fun _ h9 => h9) rfl dX0_harm_53 ?_
        refine lv_iconst (v := 1) hx hb dX0_harm_56 (by decide) ?_
        refine lv_iadd hx hb dX0_harm_57 ?_
        refine lv_topi (fun hh1 ehh1 => ?_)
        refine va_put (D := D) (ci := 1) (v := .int hh1) (ty := .int) (C := RX2) (T := TX2) (N := 4) hx hb hts in_X2 tyX2 tyX2_ok nmX2 hown hK hP hD hS 4 rfl rfl 3 (by decide) (hts _ q46) (fun _ h9 => h9) rfl (by decide +kernel) rfl rfl (Nat.le_of_ble_eq_true rfl) dX0_harm_58 (fun H locs hP hD hS => ?_)
        have hP : va_P D vwCl [(h0, .inr (0, [.ref ql, .ref qw, .ref qr, .int hm])), (ql, .inl (dT 0, 4, .inl lb)), (qw, .inl (dT 1, 24, .inr (.inl w))), (qr, .inl (dT 0, 4, .inl rb)), (g0, .inr (1, [.ref gl, .ref gw, .ref gt, .int hh1])), (gl, .inl (dT 2, 4, .inl a)), (gw, .inl (dT 2, 4, .inl wr)), (gt, .inl (dT 3, 1536, .inl tn1))] H := hP
        have hD : va_D A [(h0, .inr (0, [.ref ql, .ref qw, .ref qr, .int hm])), (ql, .inl (dT 0, 4, .inl lb)), (qw, .inl (dT 1, 24, .inr (.inl w))), (qr, .inl (dT 0, 4, .inl rb)), (g0, .inr (1, [.ref gl, .ref gw, .ref gt, .int hh1])), (gl, .inl (dT 2, 4, .inl a)), (gw, .inl (dT 2, 4, .inl wr)), (gt, .inl (dT 3, 1536, .inl tn1))] := hD
        refine lv_aload_n hx hb dX0_harm_61 rfl (lv_at hl 2 rfl) ?_
        refine lv_iload_n hx hb dX0_harm_62 rfl (lv_at hl 4 rfl) ?_
        refine cl_Vi (As := [.int at9]) (rest := []) (wr := [(g0, .inr (1, [.ref gl, .ref gw, .ref gt, .int hh1])), (gl, .inl (dT 2, 4, .inl a)), (gw, .inl (dT 2, 4, .inl wr)), (gt, .inl (dT 3, 1536, .inl tn1))]) (metX1_harm l D dT h0 ql qw qr lb w rb hm at9) ⟨hx, hb, hml, hown, hts⟩ (cwV 1 hts (lw_V q29 q30 q31 q1 q32) rfl rfl rfl (by decide +kernel) ⟨Nat.le_of_ble_eq_true rfl, Nat.le_of_ble_eq_true rfl⟩) (ci := 0) rfl rfl hP hD hS hK hA [0, 1, 2, 3] [4, 5, 6, 7] rfl rfl rfl rfl (by decide) rfl hl.1 rfl (Nat.le_of_ble_eq_true rfl) dX0_harm_63 ⟨Nat.le_of_ble_eq_true rfl, Nat.le_of_ble_eq_true rfl⟩ (fun r1 u H locs hw1 hP hD hS => ?_)
        have hP : va_P D vwCl [(g0, .inr (1, [.ref gl, .ref gw, .ref gt, .int hh1])), (gl, .inl (dT 2, 4, .inl a)), (gw, .inl (dT 2, 4, .inl wr)), (gt, .inl (dT 3, 1536, .inl tn1)), (h0, .inr (0, [.ref ql, .ref qw, .ref qr, .int u.2])), (ql, .inl (dT 0, 4, .inl lb)), (qw, .inl (dT 1, 24, .inr (.inl u.1))), (qr, .inl (dT 0, 4, .inl rb))] H := hP
        have hD : va_D A [(g0, .inr (1, [.ref gl, .ref gw, .ref gt, .int hh1])), (gl, .inl (dT 2, 4, .inl a)), (gw, .inl (dT 2, 4, .inl wr)), (gt, .inl (dT 3, 1536, .inl tn1)), (h0, .inr (0, [.ref ql, .ref qw, .ref qr, .int u.2])), (ql, .inl (dT 0, 4, .inl lb)), (qw, .inl (dT 1, 24, .inr (.inl u.1))), (qr, .inl (dT 0, 4, .inl rb))] := hD
        refine lv_iload_n hx hb dX0_harm_66 rfl (lv_at hl 1 rfl) ?_
        rw [cln hx4 (by omega), nv] at etn1
        have hnge : ¬ 40 ≤ hm := by rw [ehm]; exact fun q => absurd (ge_t q rfl (show (40 : Int32) = nI 40 from rfl) (by omega) (by omega)) (by omega)
        obtain ⟨hr1, hu2, hu3, hu4⟩ := hw1.2 hnge
        refine lv_icmp_ne (tgt := 74) hx hb dX0_harm_67 (by decide) (fun c67 => ?_) (fun c67 => ?_)
        · exact absurd hr1 c67
        · refine lv_iconst (v := 1) hx hb dX0_harm_70 (by decide) ?_
          refine lv_goto (tgt := 75) hx hb dX0_harm_71 (by decide) ?_
          rw [hQ]
          exact rt_z hx hb hr hlocks (Or.inr rfl) (u.1, u.2, tn1, hh1) ⟨rfl, by rw [show min (h + 1) 40 = h + 1 by omega]; exact good_harm hG hlt hk hu3 hu4 hv etn1 hu2 ehh1⟩ (hP.sub [4, 5, 6, 7, 0, 1, 2, 3] rfl) (hD.sub [4, 5, 6, 7, 0, 1, 2, 3] (by decide) rfl) hS (Nat.le_of_ble_eq_true rfl) (Nat.le_of_ble_eq_true rfl) dX0_harm_75
      refine lv_if_ne (tgt := 49) hx hb dX0_harm_42 (by decide) (fun c42 => ?_) (fun c42 => ?_)
      · refine lv_iconst (v := 0) hx hb dX0_harm_49 (by decide) ?_
        exact K1 _ (by rw [cln hx4 (by omega)] at c42; exact (if_neg c42).symm)
      · refine lv_iconst (v := 1) hx hb dX0_harm_45 (by decide) ?_
        refine lv_goto (tgt := 50) hx hb dX0_harm_46 (by decide) ?_
        exact K1 _ (by rw [cln hx4 (by omega)] at c42; exact (if_pos c42).symm)
abbrev rm_X0_burst : Room := { frames := 2, cells := 0, slots := 0, locals := 70 }
set_option maxHeartbeats 4000000 in
set_option maxRecDepth 100000 in
/-- burst(d, t, at, step, many) -/
theorem metX0_burst (l : Launch) (D : va_G) (dT : Nat → ClassId) (h0 ql qw qr : Nat) (lb : Nat → Int32) (w : Nat → Int64) (rb : Nat → Int32) (hm : Int32) (g0 gl gw gt : Nat) (a wr tn : Nat → Int32) (hh : Int32) (h : Nat) (hG : Good lb a wr tn w hm hh h) (at9 st9 mn : Int32) (M : Nat) (hM : M ≤ 40) (hmn : mn = nI M) : ∀ sz : Nat, Met l yX0_burst (ws_ yX0_burst cX0_burst 6 (some .boolean)) rm_X0_burst (va_Pc [.ref h0, .ref g0, .int at9, .int st9, .int mn] (PCx D dT sz [(h0, .inr (0, [.ref ql, .ref qw, .ref qr, .int hm])), (ql, .inl (dT 0, 4, .inl lb)), (qw, .inl (dT 1, 24, .inr (.inl w))), (qr, .inl (dT 0, 4, .inl rb)), (g0, .inr (1, [.ref gl, .ref gw, .ref gt, .int hh])), (gl, .inl (dT 2, 4, .inl a)), (gw, .inl (dT 2, 4, .inl wr)), (gt, .inl (dT 3, 1536, .inl tn))])) (va_Qi (fun (r : Int32) (u : (Nat → Int64) × Int32 × (Nat → Int32) × Int32) => r = 1 ∧ Good lb a wr u.2.2.1 u.1 u.2.1 u.2.2.2 (min (h + M) 40)) (BCx D (fun u : (Nat → Int64) × Int32 × (Nat → Int32) × Int32 => [(h0, .inr (0, [.ref ql, .ref qw, .ref qr, .int u.2.1])), (ql, .inl (dT 0, 4, .inl lb)), (qw, .inl (dT 1, 24, .inr (.inl u.1))), (qr, .inl (dT 0, 4, .inl rb)), (g0, .inr (1, [.ref gl, .ref gw, .ref gt, .int u.2.2.2])), (gl, .inl (dT 2, 4, .inl a)), (gw, .inl (dT 2, 4, .inl wr)), (gt, .inl (dT 3, 1536, .inl u.2.2.1))]) (va_A [(h0, .inr (0, [.ref ql, .ref qw, .ref qr, .int hm])), (ql, .inl (dT 0, 4, .inl lb)), (qw, .inl (dT 1, 24, .inr (.inl w))), (qr, .inl (dT 0, 4, .inl rb)), (g0, .inr (1, [.ref gl, .ref gw, .ref gt, .int hh])), (gl, .inl (dT 2, 4, .inl a)), (gw, .inl (dT 2, 4, .inl wr)), (gt, .inl (dT 3, 1536, .inl tn))] sz)) (va_A [(h0, .inr (0, [.ref ql, .ref qw, .ref qr, .int hm])), (ql, .inl (dT 0, 4, .inl lb)), (qw, .inl (dT 1, 24, .inr (.inl w))), (qr, .inl (dT 0, 4, .inl rb)), (g0, .inr (1, [.ref gl, .ref gw, .ref gt, .int hh])), (gl, .inl (dT 2, 4, .inl a)), (gw, .inl (dT 2, 4, .inl wr)), (gt, .inl (dT 3, 1536, .inl tn))] sz)) 0 0 (va_A [(h0, .inr (0, [.ref ql, .ref qw, .ref qr, .int hm])), (ql, .inl (dT 0, 4, .inl lb)), (qw, .inl (dT 1, 24, .inr (.inl w))), (qr, .inl (dT 0, 4, .inl rb)), (g0, .inr (1, [.ref gl, .ref gw, .ref gt, .int hh])), (gl, .inl (dT 2, 4, .inl a)), (gw, .inl (dT 2, 4, .inl wr)), (gt, .inl (dT 3, 1536, .inl tn))] sz) := by
  refine mt_of (Qc := fun A => (va_Qi (fun (r : Int32) (u : (Nat → Int64) × Int32 × (Nat → Int32) × Int32) => r = 1 ∧ Good lb a wr u.2.2.1 u.1 u.2.1 u.2.2.2 (min (h + M) 40)) (BCx D (fun u : (Nat → Int64) × Int32 × (Nat → Int32) × Int32 => [(h0, .inr (0, [.ref ql, .ref qw, .ref qr, .int u.2.1])), (ql, .inl (dT 0, 4, .inl lb)), (qw, .inl (dT 1, 24, .inr (.inl u.1))), (qr, .inl (dT 0, 4, .inl rb)), (g0, .inr (1, [.ref gl, .ref gw, .ref gt, .int u.2.2.2])), (gl, .inl (dT 2, 4, .inl a)), (gw, .inl (dT 2, 4, .inl wr)), (gt, .inl (dT 3, 1536, .inl u.2.2.1))]) A) A)) (mc := 0) (ms := 0) (by decide) (Nat.le_of_ble_eq_true rfl) ?_
  intro p e s m args below meth c hx hb hr hlocks hml hts hown hnm A hA H locs hP hD hK hS ls hl Q hQ
  have hown : s.vm.findClass RX0 = some m.cls := hown
  have hl : lv_has ls 6 [(0, .ref h0), (1, .ref g0), (2, .int at9), (3, .int st9), (4, .int mn)] := hl
  have hle : h ≤ 40 := hG.2.2.1
  refine lv_iconst (v := 0) hx hb dX0_burst_0 (by decide) ?_
  refine lv_istore (lv' := [(5, .int 0), (0, .ref h0), (1, .ref g0), (2, .int at9), (3, .int st9), (4, .int mn)]) hx hb dX0_burst_1 hl (by decide) rfl (fun ls hl => ?_)
  have outer : ∀ (n : Nat) (k : Nat) (x5 : Int32) (w : Nat → Int64) (hm : Int32) (tn : Nat → Int32) (hh : Int32) (H : Heap) (locs : List Loc) (ls : Array Slot), k ≤ M → M + 1 ≤ k + n → x5 = nI k → Good lb a wr tn w hm hh (min (h + k) 40) → va_P D vwCl [(h0, .inr (0, [.ref ql, .ref qw, .ref qr, .int hm])), (ql, .inl (dT 0, 4, .inl lb)), (qw, .inl (dT 1, 24, .inr (.inl w))), (qr, .inl (dT 0, 4, .inl rb)), (g0, .inr (1, [.ref gl, .ref gw, .ref gt, .int hh])), (gl, .inl (dT 2, 4, .inl a)), (gw, .inl (dT 2, 4, .inl wr)), (gt, .inl (dT 3, 1536, .inl tn))] H → va_D A [(h0, .inr (0, [.ref ql, .ref qw, .ref qr, .int hm])), (ql, .inl (dT 0, 4, .inl lb)), (qw, .inl (dT 1, 24, .inr (.inl w))), (qr, .inl (dT 0, 4, .inl rb)), (g0, .inr (1, [.ref gl, .ref gw, .ref gt, .int hh])), (gl, .inl (dT 2, 4, .inl a)), (gw, .inl (dT 2, 4, .inl wr)), (gt, .inl (dT 3, 1536, .inl tn))] → va_S A s.heap H locs → lv_has ls 6 [(0, .ref h0), (1, .ref g0), (2, .int at9), (3, .int st9), (4, .int mn), (5, .int x5)] → W p l e rm_X0_burst s m args below meth c H locs 0 0 Q (F0 m 3 ls []) := by
    intro n
    induction n with
    | zero =>
      intro k x5 w hm tn hh H locs ls h1 h2 h3 h4
      exact absurd h2 (by omega)
    | succ n ih =>
      intro k x5 w hm tn hh H locs ls h1 h2 h3 h4 hP hD hS hl
      refine lv_iload hx hb dX0_burst_3 (lv_at hl 5 rfl) ?_
      refine lv_iload hx hb dX0_burst_5 (lv_at hl 4 rfl) ?_
      refine lv_icmp_ge (tgt := 32) hx hb dX0_burst_7 (by decide) (fun c7 => ?_) (fun c7 => ?_)
      · have hk : k = M := by have := ge_t c7 h3 hmn (by omega) (by omega); omega
        subst hk
        refine lv_iconst (v := 1) hx hb dX0_burst_32 (by decide) ?_
        rw [hQ]
        exact rt_z hx hb hr hlocks (Or.inr rfl) (w, hm, tn, hh) ⟨rfl, h4⟩ hP hD hS (Nat.le_of_ble_eq_true rfl) (Nat.le_of_ble_eq_true rfl) dX0_burst_33
      · have hk : k < M := ge_f c7 h3 hmn (by omega) (by omega)
        refine lv_aload_n hx hb dX0_burst_10 rfl (lv_at hl 0 rfl) ?_
        refine lv_aload_n hx hb dX0_burst_11 rfl (lv_at hl 1 rfl) ?_
        refine lv_iload_n hx hb dX0_burst_12 rfl (lv_at hl 2 rfl) ?_
        refine lv_iload hx hb dX0_burst_13 (lv_at hl 5 rfl) ?_
        refine lv_iload_n hx hb dX0_burst_15 rfl (lv_at hl 3 rfl) ?_
        refine lv_imul hx hb dX0_burst_16 ?_
        refine lv_iadd hx hb dX0_burst_17 ?_
        refine cl_Si (As := [.ref h0, .ref g0, .int (at9 + (x5 * st9))]) (rest := []) (wr := []) (metX0_harm l D dT h0 ql qw qr lb w rb hm g0 gl gw gt a wr tn hh _ h4 (at9 + x5 * st9)) ⟨hx, hb, hml, hown, hts⟩ (va_cwS 3 hts (lw_S q64 q65 q0 q66) rfl rfl rfl (by decide +kernel) ⟨Nat.le_of_ble_eq_true rfl, Nat.le_of_ble_eq_true rfl⟩) hP hD hS hK hA [0, 1, 2, 3, 4, 5, 6, 7] [] rfl rfl rfl rfl (by decide) rfl hl.1 rfl (Nat.le_of_ble_eq_true rfl) dX0_burst_18 ⟨Nat.le_of_ble_eq_true rfl, Nat.le_of_ble_eq_true rfl⟩ (fun r1 u H locs hw1 hP hD hS => ?_)
        have hP : va_P D vwCl [(h0, .inr (0, [.ref ql, .ref qw, .ref qr, .int u.2.1])), (ql, .inl (dT 0, 4, .inl lb)), (qw, .inl (dT 1, 24, .inr (.inl u.1))), (qr, .inl (dT 0, 4, .inl rb)), (g0, .inr (1, [.ref gl, .ref gw, .ref gt, .int u.2.2.2])), (gl, .inl (dT 2, 4, .inl a)), (gw, .inl (dT 2, 4, .inl wr)), (gt, .inl (dT 3, 1536, .inl u.2.2.1))] H := hP
        have hD : va_D A [(h0, .inr (0, [.ref ql, .ref qw, .ref qr, .int u.2.1])), (ql, .inl (dT 0, 4, .inl lb)), (qw, .inl (dT 1, 24, .inr (.inl u.1))), (qr, .inl (dT 0, 4, .inl rb)), (g0, .inr (1, [.ref gl, .ref gw, .ref gt, .int u.2.2.2])), (gl, .inl (dT 2, 4, .inl a)), (gw, .inl (dT 2, 4, .inl wr)), (gt, .inl (dT 3, 1536, .inl u.2.2.1))] := hD
        refine lv_if_ne (tgt := 26) hx hb dX0_burst_21 (by decide) (fun c21 => ?_) (fun c21 => ?_)
        · obtain ⟨x5b, ex5b⟩ : ∃ y : Int32, y = x5 + 1 := ⟨_, rfl⟩
          refine lv_iinc (v := x5b) (lv' := [(5, .int x5b), (0, .ref h0), (1, .ref g0), (2, .int at9), (3, .int st9), (4, .int mn)]) hx hb dX0_burst_26 hl (k := 5) rfl (by rw [ex5b]; rfl) (by decide) rfl (fun ls hl => ?_)
          refine lv_goto (tgt := 3) hx hb dX0_burst_29 (by decide) ?_
          exact ih (k + 1) x5b u.1 u.2.1 u.2.2.1 u.2.2.2 _ _ _ (by omega) (by omega) (by rw [ex5b]; exact ad1 h3) (by have := hw1.2; rwa [show min (min (h + k) 40 + 1) 40 = min (h + (k + 1)) 40 by omega] at this) hP hD hS (lv_sub hl [1, 2, 3, 4, 5, 0] rfl)
        · exact absurd c21 (by rw [hw1.1]; decide)
  exact outer (M + 1) 0 0 w hm tn hh _ _ _ (by omega) (by omega) rfl (by rw [show min (h + 0) 40 = h by omega]; exact hG) hP hD hS (lv_sub hl [1, 2, 3, 4, 5, 0] rfl)
abbrev rm_X0_write : Room := { frames := 4, cells := 2, slots := 1540, locals := 140 }
set_option maxHeartbeats 4000000 in
set_option maxRecDepth 100000 in
/-- write(d, t) -/
theorem metX0_write (l : Launch) (D : va_G) (dT : Nat → ClassId) (h0 ql qw qr : Nat) (lb : Nat → Int32) (w : Nat → Int64) (rb : Nat → Int32) (hm : Int32) (g0 gl gw gt : Nat) (a wr tn : Nat → Int32) (hh : Int32) (h : Nat) (hG : Good lb a wr tn w hm hh h) : ∀ sz : Nat, Met l yX0_write (ws_ yX0_write cX0_write 3 none) rm_X0_write (va_Pc [.ref h0, .ref g0] (PCx D dT sz [(h0, .inr (0, [.ref ql, .ref qw, .ref qr, .int hm])), (ql, .inl (dT 0, 4, .inl lb)), (qw, .inl (dT 1, 24, .inr (.inl w))), (qr, .inl (dT 0, 4, .inl rb)), (g0, .inr (1, [.ref gl, .ref gw, .ref gt, .int hh])), (gl, .inl (dT 2, 4, .inl a)), (gw, .inl (dT 2, 4, .inl wr)), (gt, .inl (dT 3, 1536, .inl tn))])) (va_Qv (fun (u : (Nat → Int64) × (Nat → Int32) × Nat) => Good lb a u.2.1 (fun _ => 0) u.1 0 0 0) (BCx D (fun u : (Nat → Int64) × (Nat → Int32) × Nat => [(h0, .inr (0, [.ref ql, .ref qw, .ref qr, .int 0])), (ql, .inl (dT 0, 4, .inl lb)), (qw, .inl (dT 1, 24, .inr (.inl u.1))), (qr, .inl (dT 0, 4, .inl rb)), (g0, .inr (1, [.ref gl, .ref gw, .ref u.2.2, .int 0])), (gl, .inl (dT 2, 4, .inl a)), (gw, .inl (dT 2, 4, .inl u.2.1)), (u.2.2, .inl (dT 3, 1536, .inl (fun _ => 0)))]) (va_A [(h0, .inr (0, [.ref ql, .ref qw, .ref qr, .int hm])), (ql, .inl (dT 0, 4, .inl lb)), (qw, .inl (dT 1, 24, .inr (.inl w))), (qr, .inl (dT 0, 4, .inl rb)), (g0, .inr (1, [.ref gl, .ref gw, .ref gt, .int hh])), (gl, .inl (dT 2, 4, .inl a)), (gw, .inl (dT 2, 4, .inl wr)), (gt, .inl (dT 3, 1536, .inl tn))] sz)) (va_A [(h0, .inr (0, [.ref ql, .ref qw, .ref qr, .int hm])), (ql, .inl (dT 0, 4, .inl lb)), (qw, .inl (dT 1, 24, .inr (.inl w))), (qr, .inl (dT 0, 4, .inl rb)), (g0, .inr (1, [.ref gl, .ref gw, .ref gt, .int hh])), (gl, .inl (dT 2, 4, .inl a)), (gw, .inl (dT 2, 4, .inl wr)), (gt, .inl (dT 3, 1536, .inl tn))] sz)) 2 1540 (va_A [(h0, .inr (0, [.ref ql, .ref qw, .ref qr, .int hm])), (ql, .inl (dT 0, 4, .inl lb)), (qw, .inl (dT 1, 24, .inr (.inl w))), (qr, .inl (dT 0, 4, .inl rb)), (g0, .inr (1, [.ref gl, .ref gw, .ref gt, .int hh])), (gl, .inl (dT 2, 4, .inl a)), (gw, .inl (dT 2, 4, .inl wr)), (gt, .inl (dT 3, 1536, .inl tn))] sz) := by
  refine mt_of (Qc := fun A => (va_Qv (fun (u : (Nat → Int64) × (Nat → Int32) × Nat) => Good lb a u.2.1 (fun _ => 0) u.1 0 0 0) (BCx D (fun u : (Nat → Int64) × (Nat → Int32) × Nat => [(h0, .inr (0, [.ref ql, .ref qw, .ref qr, .int 0])), (ql, .inl (dT 0, 4, .inl lb)), (qw, .inl (dT 1, 24, .inr (.inl u.1))), (qr, .inl (dT 0, 4, .inl rb)), (g0, .inr (1, [.ref gl, .ref gw, .ref u.2.2, .int 0])), (gl, .inl (dT 2, 4, .inl a)), (gw, .inl (dT 2, 4, .inl u.2.1)), (u.2.2, .inl (dT 3, 1536, .inl (fun _ => 0)))]) A) A)) (mc := 2) (ms := 1540) (by decide) (Nat.le_of_ble_eq_true rfl) ?_
  intro p e s m args below meth c hx hb hr hlocks hml hts hown hnm A hA H locs hP hD hK hS ls hl Q hQ
  have hown : s.vm.findClass RX0 = some m.cls := hown
  have hl : lv_has ls 3 [(0, .ref h0), (1, .ref g0)] := hl
  refine lv_aload_n hx hb dX0_write_0 rfl (lv_at hl 0 rfl) ?_
  refine cl_Vv (As := []) (rest := []) (wr := [(g0, .inr (1, [.ref gl, .ref gw, .ref gt, .int hh])), (gl, .inl (dT 2, 4, .inl a)), (gw, .inl (dT 2, 4, .inl wr)), (gt, .inl (dT 3, 1536, .inl tn))]) (metX1_write l D dT h0 ql qw qr lb w rb hm) ⟨hx, hb, hml, hown, hts⟩ (cwV 0 hts (lw_V q71 q72 q73 q1 q74) rfl rfl rfl (by decide +kernel) ⟨Nat.le_of_ble_eq_true rfl, Nat.le_of_ble_eq_true rfl⟩) (ci := 0) rfl rfl hP hD hS hK hA [0, 1, 2, 3] [4, 5, 6, 7] rfl rfl rfl rfl (by decide) rfl hl.1 rfl (Nat.le_of_ble_eq_true rfl) dX0_write_1 ⟨Nat.le_of_ble_eq_true rfl, Nat.le_of_ble_eq_true rfl⟩ (fun u H locs hu hP hD hS => ?_)
  have hP : va_P D vwCl [(g0, .inr (1, [.ref gl, .ref gw, .ref gt, .int hh])), (gl, .inl (dT 2, 4, .inl a)), (gw, .inl (dT 2, 4, .inl wr)), (gt, .inl (dT 3, 1536, .inl tn)), (h0, .inr (0, [.ref ql, .ref qw, .ref qr, .int 0])), (ql, .inl (dT 0, 4, .inl lb)), (qw, .inl (dT 1, 24, .inr (.inl u))), (qr, .inl (dT 0, 4, .inl rb))] H := hP
  have hD : va_D A [(g0, .inr (1, [.ref gl, .ref gw, .ref gt, .int hh])), (gl, .inl (dT 2, 4, .inl a)), (gw, .inl (dT 2, 4, .inl wr)), (gt, .inl (dT 3, 1536, .inl tn)), (h0, .inr (0, [.ref ql, .ref qw, .ref qr, .int 0])), (ql, .inl (dT 0, 4, .inl lb)), (qw, .inl (dT 1, 24, .inr (.inl u))), (qr, .inl (dT 0, 4, .inl rb))] := hD
  refine lv_iconst (v := 0) hx hb dX0_write_4 (by decide) ?_
  refine lv_istore_n (lv' := [(2, .int 0), (0, .ref h0), (1, .ref g0)]) hx hb dX0_write_5 rfl hl (by decide) rfl (fun ls hl => ?_)
  have outer : ∀ (n : Nat) (i : Nat) (x2 : Int32) (wr : Nat → Int32) (H : Heap) (locs : List Loc) (ls : Array Slot), i ≤ 4 → 5 ≤ i + n → x2 = nI i → (∀ k, k < i → wr k = a k) → va_P D vwCl [(h0, .inr (0, [.ref ql, .ref qw, .ref qr, .int 0])), (ql, .inl (dT 0, 4, .inl lb)), (qw, .inl (dT 1, 24, .inr (.inl u))), (qr, .inl (dT 0, 4, .inl rb)), (g0, .inr (1, [.ref gl, .ref gw, .ref gt, .int hh])), (gl, .inl (dT 2, 4, .inl a)), (gw, .inl (dT 2, 4, .inl wr)), (gt, .inl (dT 3, 1536, .inl tn))] H → va_D A [(h0, .inr (0, [.ref ql, .ref qw, .ref qr, .int 0])), (ql, .inl (dT 0, 4, .inl lb)), (qw, .inl (dT 1, 24, .inr (.inl u))), (qr, .inl (dT 0, 4, .inl rb)), (g0, .inr (1, [.ref gl, .ref gw, .ref gt, .int hh])), (gl, .inl (dT 2, 4, .inl a)), (gw, .inl (dT 2, 4, .inl wr)), (gt, .inl (dT 3, 1536, .inl tn))] → va_S A s.heap H locs → lv_has ls 3 [(0, .ref h0), (1, .ref g0), (2, .int x2)] → W p l e rm_X0_write s m args below meth c H locs 1 4 Q (F0 m 6 ls []) := by
    intro n
    induction n with
    | zero =>
      intro i x2 wr H locs ls h1 h2 h3 h4
      exact absurd h2 (by omega)
    | succ n ih =>
      intro i x2 wr H locs ls h1 h2 h3 h4 hP hD hS hl
      refine lv_iload_n hx hb dX0_write_6 rfl (lv_at hl 2 rfl) ?_
      refine lv_iconst (v := 4) hx hb dX0_write_7 (by decide) ?_
      refine lv_icmp_ge (tgt := 29) hx hb dX0_write_8 (by decide) (fun c8 => ?_) (fun c8 => ?_)
      · have hi : i = 4 := by have := ge_t c8 h3 (show (4 : Int32) = nI 4 from rfl) (by omega) (by omega); omega
        subst hi
        refine lv_aload_n hx hb dX0_write_29 rfl (lv_at hl 1 rfl) ?_
        refine lv_sipush (v := 1536) hx hb dX0_write_30 (by decide) ?_
        refine nw_z (N := 1536) hx hb hts hK hP hD hS hA (by decide) (by decide) (Nat.le_of_ble_eq_true rfl) (Nat.le_of_ble_eq_true rfl) (Nat.le_of_ble_eq_true rfl) dX0_write_33 (fun gt2 H hP hD hS => ?_)
        have hP : va_P D vwCl [(h0, .inr (0, [.ref ql, .ref qw, .ref qr, .int 0])), (ql, .inl (dT 0, 4, .inl lb)), (qw, .inl (dT 1, 24, .inr (.inl u))), (qr, .inl (dT 0, 4, .inl rb)), (g0, .inr (1, [.ref gl, .ref gw, .ref gt, .int hh])), (gl, .inl (dT 2, 4, .inl a)), (gw, .inl (dT 2, 4, .inl wr)), (gt, .inl (dT 3, 1536, .inl tn)), (gt2, .inl (dT 3, 1536, .inl (fun _ => 0)))] H := hP
        have hD : va_D A [(h0, .inr (0, [.ref ql, .ref qw, .ref qr, .int 0])), (ql, .inl (dT 0, 4, .inl lb)), (qw, .inl (dT 1, 24, .inr (.inl u))), (qr, .inl (dT 0, 4, .inl rb)), (g0, .inr (1, [.ref gl, .ref gw, .ref gt, .int hh])), (gl, .inl (dT 2, 4, .inl a)), (gw, .inl (dT 2, 4, .inl wr)), (gt, .inl (dT 3, 1536, .inl tn)), (gt2, .inl (dT 3, 1536, .inl (fun _ => 0)))] := hD
        refine va_put (D := D) (ci := 1) (v := .ref gt2) (ty := .array .boolean) (C := RX2) (T := TX2) (N := 4) hx hb hts in_X2 tyX2 tyX2_ok nmX2 hown hK hP hD hS 4 rfl rfl 2 (by decide) (hts _ q45) (fun _ h9 => h9) rfl (by decide +kernel) rfl rfl (Nat.le_of_ble_eq_true rfl) dX0_write_35 (fun H locs hP hD hS => ?_)
        have hP : va_P D vwCl [(h0, .inr (0, [.ref ql, .ref qw, .ref qr, .int 0])), (ql, .inl (dT 0, 4, .inl lb)), (qw, .inl (dT 1, 24, .inr (.inl u))), (qr, .inl (dT 0, 4, .inl rb)), (g0, .inr (1, [.ref gl, .ref gw, .ref gt2, .int hh])), (gl, .inl (dT 2, 4, .inl a)), (gw, .inl (dT 2, 4, .inl wr)), (gt, .inl (dT 3, 1536, .inl tn)), (gt2, .inl (dT 3, 1536, .inl (fun _ => 0)))] H := hP
        have hD : va_D A [(h0, .inr (0, [.ref ql, .ref qw, .ref qr, .int 0])), (ql, .inl (dT 0, 4, .inl lb)), (qw, .inl (dT 1, 24, .inr (.inl u))), (qr, .inl (dT 0, 4, .inl rb)), (g0, .inr (1, [.ref gl, .ref gw, .ref gt2, .int hh])), (gl, .inl (dT 2, 4, .inl a)), (gw, .inl (dT 2, 4, .inl wr)), (gt, .inl (dT 3, 1536, .inl tn)), (gt2, .inl (dT 3, 1536, .inl (fun _ => 0)))] := hD
        refine lv_aload_n hx hb dX0_write_38 rfl (lv_at hl 1 rfl) ?_
        refine lv_iconst (v := 0) hx hb dX0_write_39 (by decide) ?_
        refine va_put (D := D) (ci := 1) (v := .int 0) (ty := .int) (C := RX2) (T := TX2) (N := 4) hx hb hts in_X2 tyX2 tyX2_ok nmX2 hown hK hP hD hS 4 rfl rfl 3 (by decide) (hts _ q46) (fun _ h9 => h9) rfl (by decide +kernel) rfl rfl (Nat.le_of_ble_eq_true rfl) dX0_write_40 (fun H locs hP hD hS => ?_)
        have hP : va_P D vwCl [(h0, .inr (0, [.ref ql, .ref qw, .ref qr, .int 0])), (ql, .inl (dT 0, 4, .inl lb)), (qw, .inl (dT 1, 24, .inr (.inl u))), (qr, .inl (dT 0, 4, .inl rb)), (g0, .inr (1, [.ref gl, .ref gw, .ref gt2, .int 0])), (gl, .inl (dT 2, 4, .inl a)), (gw, .inl (dT 2, 4, .inl wr)), (gt, .inl (dT 3, 1536, .inl tn)), (gt2, .inl (dT 3, 1536, .inl (fun _ => 0)))] H := hP
        have hD : va_D A [(h0, .inr (0, [.ref ql, .ref qw, .ref qr, .int 0])), (ql, .inl (dT 0, 4, .inl lb)), (qw, .inl (dT 1, 24, .inr (.inl u))), (qr, .inl (dT 0, 4, .inl rb)), (g0, .inr (1, [.ref gl, .ref gw, .ref gt2, .int 0])), (gl, .inl (dT 2, 4, .inl a)), (gw, .inl (dT 2, 4, .inl wr)), (gt, .inl (dT 3, 1536, .inl tn)), (gt2, .inl (dT 3, 1536, .inl (fun _ => 0)))] := hD
        rw [hQ]
        exact rt_v hx hb hr hlocks (u, wr, gt2) (good_write hG.1 hu h4) (hP.sub [0, 1, 2, 3, 4, 5, 6, 8] rfl) (hD.sub [0, 1, 2, 3, 4, 5, 6, 8] (by decide) rfl) hS (Nat.le_of_ble_eq_true rfl) (Nat.le_of_ble_eq_true rfl) dX0_write_43
      · have hi : i < 4 := ge_f c8 h3 (show (4 : Int32) = nI 4 from rfl) (by omega) (by omega)
        refine lv_aload_n hx hb dX0_write_11 rfl (lv_at hl 1 rfl) ?_
        refine va_get (D := D) (ci := 1) (v := .ref gw) (C := RX2) (T := TX2) (N := 4) hx hb hts in_X2 hown hK hP 4 rfl rfl 1 (by decide) (hts _ q43) (fun _ h9 => h9) rfl dX0_write_12 ?_
        refine lv_iload_n hx hb dX0_write_15 rfl (lv_at hl 2 rfl) ?_
        refine lv_aload_n hx hb dX0_write_16 rfl (lv_at hl 1 rfl) ?_
        refine va_get (D := D) (ci := 1) (v := .ref gl) (C := RX2) (T := TX2) (N := 4) hx hb hts in_X2 hown hK hP 4 rfl rfl 0 (by decide) (hts _ q41) (fun _ h9 => h9) rfl dX0_write_17 ?_
        refine lv_iload_n hx hb dX0_write_20 rfl (lv_at hl 2 rfl) ?_
        refine va_iald hx hb hK hP 5 2 rfl rfl (vin h3 hi (by decide)) dX0_write_21 ?_
        refine va_iast hx hb hK hP hD hS 6 2 rfl rfl (vin h3 hi (by decide)) dX0_write_22 (fun H locs hP hD hS => ?_)
        obtain ⟨wr1, ewr1⟩ : ∃ g : Nat → Int32, g = upd wr (x2 : Int32).toNatClampNeg (a x2.toNatClampNeg) := ⟨_, rfl⟩
        have hP : va_P D vwCl [(h0, .inr (0, [.ref ql, .ref qw, .ref qr, .int 0])), (ql, .inl (dT 0, 4, .inl lb)), (qw, .inl (dT 1, 24, .inr (.inl u))), (qr, .inl (dT 0, 4, .inl rb)), (g0, .inr (1, [.ref gl, .ref gw, .ref gt, .int hh])), (gl, .inl (dT 2, 4, .inl a)), (gw, .inl (dT 2, 4, .inl wr1)), (gt, .inl (dT 3, 1536, .inl tn))] H := by rw [ewr1]; exact hP
        have hD : va_D A [(h0, .inr (0, [.ref ql, .ref qw, .ref qr, .int 0])), (ql, .inl (dT 0, 4, .inl lb)), (qw, .inl (dT 1, 24, .inr (.inl u))), (qr, .inl (dT 0, 4, .inl rb)), (g0, .inr (1, [.ref gl, .ref gw, .ref gt, .int hh])), (gl, .inl (dT 2, 4, .inl a)), (gw, .inl (dT 2, 4, .inl wr1)), (gt, .inl (dT 3, 1536, .inl tn))] := by rw [ewr1]; exact hD
        obtain ⟨x2b, ex2b⟩ : ∃ y : Int32, y = x2 + 1 := ⟨_, rfl⟩
        refine lv_iinc (v := x2b) (lv' := [(2, .int x2b), (0, .ref h0), (1, .ref g0)]) hx hb dX0_write_23 hl (k := 2) rfl (by rw [ex2b]; rfl) (by decide) rfl (fun ls hl => ?_)
        refine lv_goto (tgt := 6) hx hb dX0_write_26 (by decide) ?_
        rw [cln h3 (by omega)] at ewr1
        have hN : ∀ k, k < i + 1 → wr1 k = a k := by
          intro k hk
          by_cases k1 : k = i
          · rw [upd_at ewr1 k1, k1]
          · rw [upd_ne ewr1 k1]
            exact h4 k (by omega)
        exact ih (i + 1) x2b wr1 _ _ _ (by omega) (by omega) (by rw [ex2b]; exact ad1 h3) hN hP hD hS (lv_sub hl [1, 2, 0] rfl)
  exact outer 5 0 0 wr _ _ _ (by omega) (by omega) rfl (fun k hk => absurd hk (by omega)) (hP.sub [4, 5, 6, 7, 0, 1, 2, 3] rfl) (hD.sub [4, 5, 6, 7, 0, 1, 2, 3] (by decide) rfl) hS (lv_sub hl [1, 2, 0] rfl)
end
section
/-! the law's own methods: stand, call -/
set_option maxRecDepth 100000
abbrev rm_X0_stand : Room := { frames := 4, cells := 4, slots := 328, locals := 140 }
set_option maxHeartbeats 4000000 in
set_option maxRecDepth 100000 in
/-- stand(d, t) -/
theorem metX0_stand (l : Launch) (D : va_G) (dT : Nat → ClassId) (h0 ql qw qr : Nat) (lb : Nat → Int32) (w : Nat → Int64) (rb : Nat → Int32) (hm : Int32) (g0 gl gw gt : Nat) (a wr tn : Nat → Int32) (hh : Int32) (h : Nat) (hG : Good lb a wr tn w hm hh h) : ∀ sz : Nat, Met l yX0_stand (ws_ yX0_stand cX0_stand 3 (some .boolean)) rm_X0_stand (va_Pc [.ref h0, .ref g0] (PCx D dT sz [(h0, .inr (0, [.ref ql, .ref qw, .ref qr, .int hm])), (ql, .inl (dT 0, 4, .inl lb)), (qw, .inl (dT 1, 24, .inr (.inl w))), (qr, .inl (dT 0, 4, .inl rb)), (g0, .inr (1, [.ref gl, .ref gw, .ref gt, .int hh])), (gl, .inl (dT 2, 4, .inl a)), (gw, .inl (dT 2, 4, .inl wr)), (gt, .inl (dT 3, 1536, .inl tn))])) (va_Qi (fun (r : Int32) (u : Nat → Int32) => r = 1) (BCx D (fun u : Nat → Int32 => [(h0, .inr (0, [.ref ql, .ref qw, .ref qr, .int hm])), (ql, .inl (dT 0, 4, .inl lb)), (qw, .inl (dT 1, 24, .inr (.inl w))), (qr, .inl (dT 0, 4, .inl u)), (g0, .inr (1, [.ref gl, .ref gw, .ref gt, .int hh])), (gl, .inl (dT 2, 4, .inl a)), (gw, .inl (dT 2, 4, .inl wr)), (gt, .inl (dT 3, 1536, .inl tn))]) (va_A [(h0, .inr (0, [.ref ql, .ref qw, .ref qr, .int hm])), (ql, .inl (dT 0, 4, .inl lb)), (qw, .inl (dT 1, 24, .inr (.inl w))), (qr, .inl (dT 0, 4, .inl rb)), (g0, .inr (1, [.ref gl, .ref gw, .ref gt, .int hh])), (gl, .inl (dT 2, 4, .inl a)), (gw, .inl (dT 2, 4, .inl wr)), (gt, .inl (dT 3, 1536, .inl tn))] sz)) (va_A [(h0, .inr (0, [.ref ql, .ref qw, .ref qr, .int hm])), (ql, .inl (dT 0, 4, .inl lb)), (qw, .inl (dT 1, 24, .inr (.inl w))), (qr, .inl (dT 0, 4, .inl rb)), (g0, .inr (1, [.ref gl, .ref gw, .ref gt, .int hh])), (gl, .inl (dT 2, 4, .inl a)), (gw, .inl (dT 2, 4, .inl wr)), (gt, .inl (dT 3, 1536, .inl tn))] sz)) 4 328 (va_A [(h0, .inr (0, [.ref ql, .ref qw, .ref qr, .int hm])), (ql, .inl (dT 0, 4, .inl lb)), (qw, .inl (dT 1, 24, .inr (.inl w))), (qr, .inl (dT 0, 4, .inl rb)), (g0, .inr (1, [.ref gl, .ref gw, .ref gt, .int hh])), (gl, .inl (dT 2, 4, .inl a)), (gw, .inl (dT 2, 4, .inl wr)), (gt, .inl (dT 3, 1536, .inl tn))] sz) := by
  refine mt_of (Qc := fun A => (va_Qi (fun (r : Int32) (u : Nat → Int32) => r = 1) (BCx D (fun u : Nat → Int32 => [(h0, .inr (0, [.ref ql, .ref qw, .ref qr, .int hm])), (ql, .inl (dT 0, 4, .inl lb)), (qw, .inl (dT 1, 24, .inr (.inl w))), (qr, .inl (dT 0, 4, .inl u)), (g0, .inr (1, [.ref gl, .ref gw, .ref gt, .int hh])), (gl, .inl (dT 2, 4, .inl a)), (gw, .inl (dT 2, 4, .inl wr)), (gt, .inl (dT 3, 1536, .inl tn))]) A) A)) (mc := 4) (ms := 328) (by decide) (Nat.le_of_ble_eq_true rfl) ?_
  intro p e s m args below meth c hx hb hr hlocks hml hts hown hnm A hA H locs hP hD hK hS ls hl Q hQ
  have hown : s.vm.findClass RX0 = some m.cls := hown
  have hl : lv_has ls 3 [(0, .ref h0), (1, .ref g0)] := hl
  refine lv_aload_n hx hb dX0_stand_0 rfl (lv_at hl 0 rfl) ?_
  refine cl_Vi (As := []) (rest := []) (wr := [(g0, .inr (1, [.ref gl, .ref gw, .ref gt, .int hh])), (gl, .inl (dT 2, 4, .inl a)), (gw, .inl (dT 2, 4, .inl wr)), (gt, .inl (dT 3, 1536, .inl tn))]) (metX1_read l D dT h0 ql qw qr lb w rb hm) ⟨hx, hb, hml, hown, hts⟩ (cwV 0 hts (lw_V q107 q108 q109 q1 q110) rfl rfl rfl (by decide +kernel) ⟨Nat.le_of_ble_eq_true rfl, Nat.le_of_ble_eq_true rfl⟩) (ci := 0) rfl rfl hP hD hS hK hA [0, 1, 2, 3] [4, 5, 6, 7] rfl rfl rfl rfl (by decide) rfl hl.1 rfl (Nat.le_of_ble_eq_true rfl) dX0_stand_1 ⟨Nat.le_of_ble_eq_true rfl, Nat.le_of_ble_eq_true rfl⟩ (fun r1 u H locs hw1 hP hD hS => ?_)
  have hP : va_P D vwCl [(g0, .inr (1, [.ref gl, .ref gw, .ref gt, .int hh])), (gl, .inl (dT 2, 4, .inl a)), (gw, .inl (dT 2, 4, .inl wr)), (gt, .inl (dT 3, 1536, .inl tn)), (h0, .inr (0, [.ref ql, .ref qw, .ref qr, .int hm])), (ql, .inl (dT 0, 4, .inl lb)), (qw, .inl (dT 1, 24, .inr (.inl w))), (qr, .inl (dT 0, 4, .inl u))] H := hP
  have hD : va_D A [(g0, .inr (1, [.ref gl, .ref gw, .ref gt, .int hh])), (gl, .inl (dT 2, 4, .inl a)), (gw, .inl (dT 2, 4, .inl wr)), (gt, .inl (dT 3, 1536, .inl tn)), (h0, .inr (0, [.ref ql, .ref qw, .ref qr, .int hm])), (ql, .inl (dT 0, 4, .inl lb)), (qw, .inl (dT 1, 24, .inr (.inl w))), (qr, .inl (dT 0, 4, .inl u))] := hD
  refine lv_aload_n hx hb dX0_stand_4 rfl (lv_at hl 1 rfl) ?_
  refine va_get (D := D) (ci := 1) (v := .ref gw) (C := RX2) (T := TX2) (N := 4) hx hb hts in_X2 hown hK hP 0 rfl rfl 1 (by decide) (hts _ q43) (fun _ h9 => h9) rfl dX0_stand_5 ?_
  refine cl_Si (As := [.ref gw]) (rest := [.int r1]) (wr := [(g0, .inr (1, [.ref gl, .ref gw, .ref gt, .int hh])), (gl, .inl (dT 2, 4, .inl a)), (gt, .inl (dT 3, 1536, .inl tn)), (h0, .inr (0, [.ref ql, .ref qw, .ref qr, .int hm])), (ql, .inl (dT 0, 4, .inl lb)), (qw, .inl (dT 1, 24, .inr (.inl w))), (qr, .inl (dT 0, 4, .inl u))]) (metX0_packed l D dT gw wr) ⟨hx, hb, hml, hown, hts⟩ (va_cwS 1 hts (lw_S q129 q130 q0 q131) rfl rfl rfl (by decide +kernel) ⟨Nat.le_of_ble_eq_true rfl, Nat.le_of_ble_eq_true rfl⟩) hP hD hS hK hA [2] [0, 1, 3, 4, 5, 6, 7] rfl rfl rfl rfl (by decide) rfl hl.1 rfl (Nat.le_of_ble_eq_true rfl) dX0_stand_8 ⟨Nat.le_of_ble_eq_true rfl, Nat.le_of_ble_eq_true rfl⟩ (fun r2 _u H locs hw2 hP hD hS => ?_)
  have hP : va_P D vwCl [(g0, .inr (1, [.ref gl, .ref gw, .ref gt, .int hh])), (gl, .inl (dT 2, 4, .inl a)), (gt, .inl (dT 3, 1536, .inl tn)), (h0, .inr (0, [.ref ql, .ref qw, .ref qr, .int hm])), (ql, .inl (dT 0, 4, .inl lb)), (qw, .inl (dT 1, 24, .inr (.inl w))), (qr, .inl (dT 0, 4, .inl u)), (gw, .inl (dT 2, 4, .inl wr))] H := hP
  have hD : va_D A [(g0, .inr (1, [.ref gl, .ref gw, .ref gt, .int hh])), (gl, .inl (dT 2, 4, .inl a)), (gt, .inl (dT 3, 1536, .inl tn)), (h0, .inr (0, [.ref ql, .ref qw, .ref qr, .int hm])), (ql, .inl (dT 0, 4, .inl lb)), (qw, .inl (dT 1, 24, .inr (.inl w))), (qr, .inl (dT 0, 4, .inl u)), (gw, .inl (dT 2, 4, .inl wr))] := hD
  have heq : r1 = r2 := by rw [hw1.1, hw2]; exact good_read hG hw1.2
  refine lv_icmp_eq (tgt := 16) hx hb dX0_stand_11 (by decide) (fun c11 => ?_) (fun c11 => ?_)
  · refine lv_iconst (v := 0) hx hb dX0_stand_16 (by decide) ?_
    refine lv_istore_n (lv' := [(2, .int 0), (0, .ref h0), (1, .ref g0)]) hx hb dX0_stand_17 rfl hl (by decide) rfl (fun ls hl => ?_)
    have bits : ∀ (n : Nat) (q : Nat) (x2 : Int32) (H : Heap) (locs : List Loc) (ls : Array Slot), q ≤ 1536 → 1537 ≤ q + n → x2 = nI q → va_P D vwCl [(h0, .inr (0, [.ref ql, .ref qw, .ref qr, .int hm])), (ql, .inl (dT 0, 4, .inl lb)), (qw, .inl (dT 1, 24, .inr (.inl w))), (qr, .inl (dT 0, 4, .inl u)), (g0, .inr (1, [.ref gl, .ref gw, .ref gt, .int hh])), (gl, .inl (dT 2, 4, .inl a)), (gw, .inl (dT 2, 4, .inl wr)), (gt, .inl (dT 3, 1536, .inl tn))] H → va_D A [(h0, .inr (0, [.ref ql, .ref qw, .ref qr, .int hm])), (ql, .inl (dT 0, 4, .inl lb)), (qw, .inl (dT 1, 24, .inr (.inl w))), (qr, .inl (dT 0, 4, .inl u)), (g0, .inr (1, [.ref gl, .ref gw, .ref gt, .int hh])), (gl, .inl (dT 2, 4, .inl a)), (gw, .inl (dT 2, 4, .inl wr)), (gt, .inl (dT 3, 1536, .inl tn))] → va_S A s.heap H locs → lv_has ls 3 [(0, .ref h0), (1, .ref g0), (2, .int x2)] → W p l e rm_X0_stand s m args below meth c H locs 4 328 Q (F0 m 18 ls []) := by
      intro n
      induction n with
      | zero =>
        intro q x2 H locs ls h1 h2 h3
        exact absurd h2 (by omega)
      | succ n ih =>
        intro q x2 H locs ls h1 h2 h3 hP hD hS hl
        refine lv_iload_n hx hb dX0_stand_18 rfl (lv_at hl 2 rfl) ?_
        refine lv_sipush (v := 1536) hx hb dX0_stand_19 (by decide) ?_
        refine lv_icmp_ge (tgt := 46) hx hb dX0_stand_22 (by decide) (fun c22 => ?_) (fun c22 => ?_)
        · refine lv_iconst (v := 0) hx hb dX0_stand_46 (by decide) ?_
          refine lv_istore_n (lv' := [(2, .int 0), (0, .ref h0), (1, .ref g0)]) hx hb dX0_stand_47 rfl hl (by decide) rfl (fun ls hl => ?_)
          have lets : ∀ (n : Nat) (i : Nat) (x2 : Int32) (H : Heap) (locs : List Loc) (ls : Array Slot), i ≤ 4 → 5 ≤ i + n → x2 = nI i → va_P D vwCl [(h0, .inr (0, [.ref ql, .ref qw, .ref qr, .int hm])), (ql, .inl (dT 0, 4, .inl lb)), (qw, .inl (dT 1, 24, .inr (.inl w))), (qr, .inl (dT 0, 4, .inl u)), (g0, .inr (1, [.ref gl, .ref gw, .ref gt, .int hh])), (gl, .inl (dT 2, 4, .inl a)), (gw, .inl (dT 2, 4, .inl wr)), (gt, .inl (dT 3, 1536, .inl tn))] H → va_D A [(h0, .inr (0, [.ref ql, .ref qw, .ref qr, .int hm])), (ql, .inl (dT 0, 4, .inl lb)), (qw, .inl (dT 1, 24, .inr (.inl w))), (qr, .inl (dT 0, 4, .inl u)), (g0, .inr (1, [.ref gl, .ref gw, .ref gt, .int hh])), (gl, .inl (dT 2, 4, .inl a)), (gw, .inl (dT 2, 4, .inl wr)), (gt, .inl (dT 3, 1536, .inl tn))] → va_S A s.heap H locs → lv_has ls 3 [(0, .ref h0), (1, .ref g0), (2, .int x2)] → W p l e rm_X0_stand s m args below meth c H locs 4 328 Q (F0 m 48 ls []) := by
            intro n
            induction n with
            | zero =>
              intro i x2 H locs ls g1 g2 g3
              exact absurd g2 (by omega)
            | succ n jh =>
              intro i x2 H locs ls g1 g2 g3 hP hD hS hl
              refine lv_iload_n hx hb dX0_stand_48 rfl (lv_at hl 2 rfl) ?_
              refine lv_iconst (v := 4) hx hb dX0_stand_49 (by decide) ?_
              refine lv_icmp_ge (tgt := 75) hx hb dX0_stand_50 (by decide) (fun c50 => ?_) (fun c50 => ?_)
              · refine lv_iconst (v := 1) hx hb dX0_stand_75 (by decide) ?_
                rw [hQ]
                exact rt_z hx hb hr hlocks (Or.inr rfl) u rfl hP hD hS (Nat.le_of_ble_eq_true rfl) (Nat.le_of_ble_eq_true rfl) dX0_stand_76
              · have hi : i < 4 := ge_f c50 g3 (show (4 : Int32) = nI 4 from rfl) (by omega) (by omega)
                refine lv_aload_n hx hb dX0_stand_53 rfl (lv_at hl 0 rfl) ?_
                refine lv_iload_n hx hb dX0_stand_54 rfl (lv_at hl 2 rfl) ?_
                refine cl_Vi (As := [.int x2]) (rest := []) (wr := [(g0, .inr (1, [.ref gl, .ref gw, .ref gt, .int hh])), (gl, .inl (dT 2, 4, .inl a)), (gw, .inl (dT 2, 4, .inl wr)), (gt, .inl (dT 3, 1536, .inl tn))]) (metX1_letter_2 l D dT h0 ql qw qr lb w u hm x2) ⟨hx, hb, hml, hown, hts⟩ (cwV 1 hts (lw_V q132 q133 q134 q1 q135) rfl rfl rfl (by decide +kernel) ⟨Nat.le_of_ble_eq_true rfl, Nat.le_of_ble_eq_true rfl⟩) (ci := 0) rfl rfl hP hD hS hK hA [0, 1, 2, 3] [4, 5, 6, 7] rfl rfl rfl rfl (by decide) rfl hl.1 rfl (Nat.le_of_ble_eq_true rfl) dX0_stand_55 ⟨Nat.le_of_ble_eq_true rfl, Nat.le_of_ble_eq_true rfl⟩ (fun r3 _u H locs hw3 hP hD hS => ?_)
                have hP : va_P D vwCl [(g0, .inr (1, [.ref gl, .ref gw, .ref gt, .int hh])), (gl, .inl (dT 2, 4, .inl a)), (gw, .inl (dT 2, 4, .inl wr)), (gt, .inl (dT 3, 1536, .inl tn)), (h0, .inr (0, [.ref ql, .ref qw, .ref qr, .int hm])), (ql, .inl (dT 0, 4, .inl lb)), (qw, .inl (dT 1, 24, .inr (.inl w))), (qr, .inl (dT 0, 4, .inl u))] H := hP
                have hD : va_D A [(g0, .inr (1, [.ref gl, .ref gw, .ref gt, .int hh])), (gl, .inl (dT 2, 4, .inl a)), (gw, .inl (dT 2, 4, .inl wr)), (gt, .inl (dT 3, 1536, .inl tn)), (h0, .inr (0, [.ref ql, .ref qw, .ref qr, .int hm])), (ql, .inl (dT 0, 4, .inl lb)), (qw, .inl (dT 1, 24, .inr (.inl w))), (qr, .inl (dT 0, 4, .inl u))] := hD
                refine lv_aload_n hx hb dX0_stand_58 rfl (lv_at hl 1 rfl) ?_
                refine va_get (D := D) (ci := 1) (v := .ref gl) (C := RX2) (T := TX2) (N := 4) hx hb hts in_X2 hown hK hP 0 rfl rfl 0 (by decide) (hts _ q41) (fun _ h9 => h9) rfl dX0_stand_59 ?_
                refine lv_iload_n hx hb dX0_stand_62 rfl (lv_at hl 2 rfl) ?_
                refine va_iald hx hb hK hP 1 2 rfl rfl (vin g3 hi (by decide)) dX0_stand_63 ?_
                have e3 : r3 = a x2.toNatClampNeg := by rw [hw3, cln g3 (by omega), g3, n3_nI hi]; exact (hG.1 i hi).symm
                refine lv_icmp_eq (tgt := 69) hx hb dX0_stand_64 (by decide) (fun c64 => ?_) (fun c64 => ?_)
                · obtain ⟨x2b, ex2b⟩ : ∃ y : Int32, y = x2 + 1 := ⟨_, rfl⟩
                  refine lv_iinc (v := x2b) (lv' := [(2, .int x2b), (0, .ref h0), (1, .ref g0)]) hx hb dX0_stand_69 hl (k := 2) rfl (by rw [ex2b]; rfl) (by decide) rfl (fun ls hl => ?_)
                  refine lv_goto (tgt := 48) hx hb dX0_stand_72 (by decide) ?_
                  exact jh (i + 1) x2b _ _ _ (by omega) (by omega) (by rw [ex2b]; exact ad1 g3) (hP.sub [4, 5, 6, 7, 0, 1, 2, 3] rfl) (hD.sub [4, 5, 6, 7, 0, 1, 2, 3] (by decide) rfl) hS (lv_sub hl [1, 2, 0] rfl)
                · exact absurd e3 c64
          exact lets 5 0 0 _ _ _ (by omega) (by omega) rfl hP hD hS (lv_sub hl [1, 2, 0] rfl)
        · have hq : q < 1536 := ge_f c22 h3 (show (1536 : Int32) = nI 1536 from rfl) (by omega) (by omega)
          refine lv_aload_n hx hb dX0_stand_25 rfl (lv_at hl 0 rfl) ?_
          refine lv_iload_n hx hb dX0_stand_26 rfl (lv_at hl 2 rfl) ?_
          refine cl_Vi (As := [.int x2]) (rest := []) (wr := [(g0, .inr (1, [.ref gl, .ref gw, .ref gt, .int hh])), (gl, .inl (dT 2, 4, .inl a)), (gw, .inl (dT 2, 4, .inl wr)), (gt, .inl (dT 3, 1536, .inl tn))]) (metX1_bit l D dT h0 ql qw qr lb w u hm x2) ⟨hx, hb, hml, hown, hts⟩ (cwV 1 hts (lw_V q97 q98 q99 q1 q100) rfl rfl rfl (by decide +kernel) ⟨Nat.le_of_ble_eq_true rfl, Nat.le_of_ble_eq_true rfl⟩) (ci := 0) rfl rfl hP hD hS hK hA [0, 1, 2, 3] [4, 5, 6, 7] rfl rfl rfl rfl (by decide) rfl hl.1 rfl (Nat.le_of_ble_eq_true rfl) dX0_stand_27 ⟨Nat.le_of_ble_eq_true rfl, Nat.le_of_ble_eq_true rfl⟩ (fun r3 _u H locs hw3 hP hD hS => ?_)
          have hP : va_P D vwCl [(g0, .inr (1, [.ref gl, .ref gw, .ref gt, .int hh])), (gl, .inl (dT 2, 4, .inl a)), (gw, .inl (dT 2, 4, .inl wr)), (gt, .inl (dT 3, 1536, .inl tn)), (h0, .inr (0, [.ref ql, .ref qw, .ref qr, .int hm])), (ql, .inl (dT 0, 4, .inl lb)), (qw, .inl (dT 1, 24, .inr (.inl w))), (qr, .inl (dT 0, 4, .inl u))] H := hP
          have hD : va_D A [(g0, .inr (1, [.ref gl, .ref gw, .ref gt, .int hh])), (gl, .inl (dT 2, 4, .inl a)), (gw, .inl (dT 2, 4, .inl wr)), (gt, .inl (dT 3, 1536, .inl tn)), (h0, .inr (0, [.ref ql, .ref qw, .ref qr, .int hm])), (ql, .inl (dT 0, 4, .inl lb)), (qw, .inl (dT 1, 24, .inr (.inl w))), (qr, .inl (dT 0, 4, .inl u))] := hD
          refine lv_aload_n hx hb dX0_stand_30 rfl (lv_at hl 1 rfl) ?_
          refine lv_iload_n hx hb dX0_stand_31 rfl (lv_at hl 2 rfl) ?_
          refine cl_Si (As := [.ref g0, .int x2]) (rest := [.int r3]) (wr := [(h0, .inr (0, [.ref ql, .ref qw, .ref qr, .int hm])), (ql, .inl (dT 0, 4, .inl lb)), (qw, .inl (dT 1, 24, .inr (.inl w))), (qr, .inl (dT 0, 4, .inl u))]) (metX0_bit l D dT g0 gl gw gt a wr tn hh q hq x2 h3) ⟨hx, hb, hml, hown, hts⟩ (va_cwS 2 hts (lw_S q101 q102 q0 q103) rfl rfl rfl (by decide +kernel) ⟨Nat.le_of_ble_eq_true rfl, Nat.le_of_ble_eq_true rfl⟩) hP hD hS hK hA [0, 1, 2, 3] [4, 5, 6, 7] rfl rfl rfl rfl (by decide) rfl hl.1 rfl (Nat.le_of_ble_eq_true rfl) dX0_stand_32 ⟨Nat.le_of_ble_eq_true rfl, Nat.le_of_ble_eq_true rfl⟩ (fun r4 _u H locs hw4 hP hD hS => ?_)
          have hP : va_P D vwCl [(h0, .inr (0, [.ref ql, .ref qw, .ref qr, .int hm])), (ql, .inl (dT 0, 4, .inl lb)), (qw, .inl (dT 1, 24, .inr (.inl w))), (qr, .inl (dT 0, 4, .inl u)), (g0, .inr (1, [.ref gl, .ref gw, .ref gt, .int hh])), (gl, .inl (dT 2, 4, .inl a)), (gw, .inl (dT 2, 4, .inl wr)), (gt, .inl (dT 3, 1536, .inl tn))] H := hP
          have hD : va_D A [(h0, .inr (0, [.ref ql, .ref qw, .ref qr, .int hm])), (ql, .inl (dT 0, 4, .inl lb)), (qw, .inl (dT 1, 24, .inr (.inl w))), (qr, .inl (dT 0, 4, .inl u)), (g0, .inr (1, [.ref gl, .ref gw, .ref gt, .int hh])), (gl, .inl (dT 2, 4, .inl a)), (gw, .inl (dT 2, 4, .inl wr)), (gt, .inl (dT 3, 1536, .inl tn))] := hD
          have e3 : r3 = r4 := by rw [hw3, hw4, h3, kN_nI hq]; exact good_bit hG hq
          refine lv_icmp_eq (tgt := 40) hx hb dX0_stand_35 (by decide) (fun c35 => ?_) (fun c35 => ?_)
          · obtain ⟨x2b, ex2b⟩ : ∃ y : Int32, y = x2 + 1 := ⟨_, rfl⟩
            refine lv_iinc (v := x2b) (lv' := [(2, .int x2b), (0, .ref h0), (1, .ref g0)]) hx hb dX0_stand_40 hl (k := 2) rfl (by rw [ex2b]; rfl) (by decide) rfl (fun ls hl => ?_)
            refine lv_goto (tgt := 18) hx hb dX0_stand_43 (by decide) ?_
            exact ih (q + 1) x2b _ _ _ (by omega) (by omega) (by rw [ex2b]; exact ad1 h3) hP hD hS (lv_sub hl [1, 2, 0] rfl)
          · exact absurd e3 c35
    exact bits 1537 0 0 _ _ _ (by omega) (by omega) rfl (hP.sub [3, 4, 5, 6, 0, 1, 7, 2] rfl) (hD.sub [3, 4, 5, 6, 0, 1, 7, 2] (by decide) rfl) hS (lv_sub hl [1, 2, 0] rfl)
  · exact absurd heq c11
abbrev rm_X0_call : Room := { frames := 5, cells := 4, slots := 1540, locals := 190 }
set_option maxHeartbeats 4000000 in
set_option maxRecDepth 100000 in
/-- call(d, t, x) -/
theorem metX0_call (l : Launch) (D : va_G) (dT : Nat → ClassId) (h0 ql qw qr : Nat) (lb : Nat → Int32) (w : Nat → Int64) (rb : Nat → Int32) (hm : Int32) (g0 gl gw gt : Nat) (a wr tn : Nat → Int32) (hh : Int32) (h : Nat) (hG : Good lb a wr tn w hm hh h) (x : Int32) : ∀ sz : Nat, Met l yX0_call (ws_ yX0_call cX0_call 4 (some .boolean)) rm_X0_call (va_Pc [.ref h0, .ref g0, .int x] (PCx D dT sz [(h0, .inr (0, [.ref ql, .ref qw, .ref qr, .int hm])), (ql, .inl (dT 0, 4, .inl lb)), (qw, .inl (dT 1, 24, .inr (.inl w))), (qr, .inl (dT 0, 4, .inl rb)), (g0, .inr (1, [.ref gl, .ref gw, .ref gt, .int hh])), (gl, .inl (dT 2, 4, .inl a)), (gw, .inl (dT 2, 4, .inl wr)), (gt, .inl (dT 3, 1536, .inl tn))])) (va_Qi (fun (r : Int32) (u : (Nat → Int32) × (Nat → Int64) × (Nat → Int32) × Int32 × (Nat → Int32) × (Nat → Int32) × Nat × (Nat → Int32) × Int32) => r = 1 ∧ ∃ h : Nat, Good u.1 u.2.2.2.2.1 u.2.2.2.2.2.1 u.2.2.2.2.2.2.2.1 u.2.1 u.2.2.2.1 u.2.2.2.2.2.2.2.2 h) (BCx D (fun u : (Nat → Int32) × (Nat → Int64) × (Nat → Int32) × Int32 × (Nat → Int32) × (Nat → Int32) × Nat × (Nat → Int32) × Int32 => [(h0, .inr (0, [.ref ql, .ref qw, .ref qr, .int u.2.2.2.1])), (ql, .inl (dT 0, 4, .inl u.1)), (qw, .inl (dT 1, 24, .inr (.inl u.2.1))), (qr, .inl (dT 0, 4, .inl u.2.2.1)), (g0, .inr (1, [.ref gl, .ref gw, .ref u.2.2.2.2.2.2.1, .int u.2.2.2.2.2.2.2.2])), (gl, .inl (dT 2, 4, .inl u.2.2.2.2.1)), (gw, .inl (dT 2, 4, .inl u.2.2.2.2.2.1)), (u.2.2.2.2.2.2.1, .inl (dT 3, 1536, .inl u.2.2.2.2.2.2.2.1))]) (va_A [(h0, .inr (0, [.ref ql, .ref qw, .ref qr, .int hm])), (ql, .inl (dT 0, 4, .inl lb)), (qw, .inl (dT 1, 24, .inr (.inl w))), (qr, .inl (dT 0, 4, .inl rb)), (g0, .inr (1, [.ref gl, .ref gw, .ref gt, .int hh])), (gl, .inl (dT 2, 4, .inl a)), (gw, .inl (dT 2, 4, .inl wr)), (gt, .inl (dT 3, 1536, .inl tn))] sz)) (va_A [(h0, .inr (0, [.ref ql, .ref qw, .ref qr, .int hm])), (ql, .inl (dT 0, 4, .inl lb)), (qw, .inl (dT 1, 24, .inr (.inl w))), (qr, .inl (dT 0, 4, .inl rb)), (g0, .inr (1, [.ref gl, .ref gw, .ref gt, .int hh])), (gl, .inl (dT 2, 4, .inl a)), (gw, .inl (dT 2, 4, .inl wr)), (gt, .inl (dT 3, 1536, .inl tn))] sz)) 4 1540 (va_A [(h0, .inr (0, [.ref ql, .ref qw, .ref qr, .int hm])), (ql, .inl (dT 0, 4, .inl lb)), (qw, .inl (dT 1, 24, .inr (.inl w))), (qr, .inl (dT 0, 4, .inl rb)), (g0, .inr (1, [.ref gl, .ref gw, .ref gt, .int hh])), (gl, .inl (dT 2, 4, .inl a)), (gw, .inl (dT 2, 4, .inl wr)), (gt, .inl (dT 3, 1536, .inl tn))] sz) := by
  refine mt_of (Qc := fun A => (va_Qi (fun (r : Int32) (u : (Nat → Int32) × (Nat → Int64) × (Nat → Int32) × Int32 × (Nat → Int32) × (Nat → Int32) × Nat × (Nat → Int32) × Int32) => r = 1 ∧ ∃ h : Nat, Good u.1 u.2.2.2.2.1 u.2.2.2.2.2.1 u.2.2.2.2.2.2.2.1 u.2.1 u.2.2.2.1 u.2.2.2.2.2.2.2.2 h) (BCx D (fun u : (Nat → Int32) × (Nat → Int64) × (Nat → Int32) × Int32 × (Nat → Int32) × (Nat → Int32) × Nat × (Nat → Int32) × Int32 => [(h0, .inr (0, [.ref ql, .ref qw, .ref qr, .int u.2.2.2.1])), (ql, .inl (dT 0, 4, .inl u.1)), (qw, .inl (dT 1, 24, .inr (.inl u.2.1))), (qr, .inl (dT 0, 4, .inl u.2.2.1)), (g0, .inr (1, [.ref gl, .ref gw, .ref u.2.2.2.2.2.2.1, .int u.2.2.2.2.2.2.2.2])), (gl, .inl (dT 2, 4, .inl u.2.2.2.2.1)), (gw, .inl (dT 2, 4, .inl u.2.2.2.2.2.1)), (u.2.2.2.2.2.2.1, .inl (dT 3, 1536, .inl u.2.2.2.2.2.2.2.1))]) A) A)) (mc := 4) (ms := 1540) (by decide) (Nat.le_of_ble_eq_true rfl) ?_
  intro p e s m args below meth c hx hb hr hlocks hml hts hown hnm A hA H locs hP hD hK hS ls hl Q hQ
  have hown : s.vm.findClass RX0 = some m.cls := hown
  have hl : lv_has ls 4 [(0, .ref h0), (1, .ref g0), (2, .int x)] := hl
  refine lv_iload_n hx hb dX0_call_0 rfl (lv_at hl 2 rfl) ?_
  refine lv_iconst (v := 3) hx hb dX0_call_1 (by decide) ?_
  refine lv_ishr hx hb dX0_call_2 ?_
  refine lv_topi (fun x3 ex3 => ?_)
  refine lv_istore_n (lv' := [(3, .int x3), (0, .ref h0), (1, .ref g0), (2, .int x)]) hx hb dX0_call_3 rfl hl (by decide) rfl (fun ls hl => ?_)
  refine lv_iload_n hx hb dX0_call_4 rfl (lv_at hl 3 rfl) ?_
  refine lv_bipush (v := 7) hx hb dX0_call_5 (by decide) ?_
  refine lv_iand hx hb dX0_call_7 ?_
  refine lv_topi (fun x7 ex7 => ?_)
  obtain ⟨m7, hm7, hx7⟩ : ∃ m7 : Nat, m7 < 8 ∧ x7 = nI m7 := ⟨_, Nat.mod_lt _ (by decide), ex7.trans (pk_and x 3 (by decide))⟩
  have e8 : m7 = 0 ∨ m7 = 1 ∨ m7 = 2 ∨ m7 = 3 ∨ m7 = 4 ∨ m7 = 5 ∨ m7 = 6 ∨ m7 = 7 := by omega
  rcases e8 with e8 | e8 | e8 | e8 | e8 | e8 | e8 | e8 <;> rw [e8] at hx7
  · refine lv_tableIn (off := 44) (tgt := 52) hx hb dX0_call_8 (by rw [hx7]; decide) (by rw [hx7]; decide) (by rw [hx7]; rfl) (by decide) ?_
    refine lv_aload_n hx hb dX0_call_52 rfl (lv_at hl 1 rfl) ?_
    refine lv_iload_n hx hb dX0_call_53 rfl (lv_at hl 0 rfl) ?_
    refine lv_iload_n hx hb dX0_call_54 rfl (lv_at hl 3 rfl) ?_
    refine lv_iconst (v := 5) hx hb dX0_call_55 (by decide) ?_
    refine lv_ishr hx hb dX0_call_56 ?_
    refine lv_topi (fun v9 ev9 => ?_)
    refine cl_Vv (As := [.int x3, .int v9]) (rest := []) (wr := [(g0, .inr (1, [.ref gl, .ref gw, .ref gt, .int hh])), (gl, .inl (dT 2, 4, .inl a)), (gw, .inl (dT 2, 4, .inl wr)), (gt, .inl (dT 3, 1536, .inl tn))]) (metX1_letter l D dT h0 ql qw qr lb w rb hm x3 v9) ⟨hx, hb, hml, hown, hts⟩ (cwV 2 hts (lw_V q93 q94 q95 q1 q96) rfl rfl rfl (by decide +kernel) ⟨Nat.le_of_ble_eq_true rfl, Nat.le_of_ble_eq_true rfl⟩) (ci := 0) rfl rfl hP hD hS hK hA [0, 1, 2, 3] [4, 5, 6, 7] rfl rfl rfl rfl (by decide) rfl hl.1 rfl (Nat.le_of_ble_eq_true rfl) dX0_call_57 ⟨Nat.le_of_ble_eq_true rfl, Nat.le_of_ble_eq_true rfl⟩ (fun lb1 H locs hw1 hP hD hS => ?_)
    have hP : va_P D vwCl [(g0, .inr (1, [.ref gl, .ref gw, .ref gt, .int hh])), (gl, .inl (dT 2, 4, .inl a)), (gw, .inl (dT 2, 4, .inl wr)), (gt, .inl (dT 3, 1536, .inl tn)), (h0, .inr (0, [.ref ql, .ref qw, .ref qr, .int hm])), (ql, .inl (dT 0, 4, .inl lb1)), (qw, .inl (dT 1, 24, .inr (.inl w))), (qr, .inl (dT 0, 4, .inl rb))] H := hP
    have hD : va_D A [(g0, .inr (1, [.ref gl, .ref gw, .ref gt, .int hh])), (gl, .inl (dT 2, 4, .inl a)), (gw, .inl (dT 2, 4, .inl wr)), (gt, .inl (dT 3, 1536, .inl tn)), (h0, .inr (0, [.ref ql, .ref qw, .ref qr, .int hm])), (ql, .inl (dT 0, 4, .inl lb1)), (qw, .inl (dT 1, 24, .inr (.inl w))), (qr, .inl (dT 0, 4, .inl rb))] := hD
    refine lv_aload_n hx hb dX0_call_60 rfl (lv_at hl 2 rfl) ?_
    refine va_get (D := D) (ci := 1) (v := .ref gl) (C := RX2) (T := TX2) (N := 4) hx hb hts in_X2 hown hK hP 0 rfl rfl 0 (by decide) (hts _ q41) (fun _ h9 => h9) rfl dX0_call_61 ?_
    refine lv_iload_n hx hb dX0_call_64 rfl (lv_at hl 0 rfl) ?_
    refine lv_iconst (v := 3) hx hb dX0_call_65 (by decide) ?_
    refine lv_iand hx hb dX0_call_66 ?_
    refine lv_iload_n hx hb dX0_call_67 rfl (lv_at hl 3 rfl) ?_
    refine lv_iconst (v := 5) hx hb dX0_call_68 (by decide) ?_
    refine lv_ishr hx hb dX0_call_69 ?_
    refine lv_sipush (v := 255) hx hb dX0_call_70 (by decide) ?_
    refine lv_iand hx hb dX0_call_73 ?_
    refine lv_topi (fun v8 ev8 => ?_)
    refine va_iast hx hb hK hP hD hS 1 2 rfl rfl (vin (n3_and x3) (n3_lt x3) (by decide)) dX0_call_74 (fun H locs hP hD hS => ?_)
    obtain ⟨a1, ea1⟩ : ∃ g : Nat → Int32, g = upd a ((x3 &&& 3) : Int32).toNatClampNeg v8 := ⟨_, rfl⟩
    have hP : va_P D vwCl [(g0, .inr (1, [.ref gl, .ref gw, .ref gt, .int hh])), (gl, .inl (dT 2, 4, .inl a1)), (gw, .inl (dT 2, 4, .inl wr)), (gt, .inl (dT 3, 1536, .inl tn)), (h0, .inr (0, [.ref ql, .ref qw, .ref qr, .int hm])), (ql, .inl (dT 0, 4, .inl lb1)), (qw, .inl (dT 1, 24, .inr (.inl w))), (qr, .inl (dT 0, 4, .inl rb))] H := by rw [ea1]; exact hP
    have hD : va_D A [(g0, .inr (1, [.ref gl, .ref gw, .ref gt, .int hh])), (gl, .inl (dT 2, 4, .inl a1)), (gw, .inl (dT 2, 4, .inl wr)), (gt, .inl (dT 3, 1536, .inl tn)), (h0, .inr (0, [.ref ql, .ref qw, .ref qr, .int hm])), (ql, .inl (dT 0, 4, .inl lb1)), (qw, .inl (dT 1, 24, .inr (.inl w))), (qr, .inl (dT 0, 4, .inl rb))] := by rw [ea1]; exact hD
    refine lv_iconst (v := 1) hx hb dX0_call_75 (by decide) ?_
    rw [cln (n3_and x3) (Nat.lt_trans (n3_lt x3) (by decide)), ev8, ← ev9] at ea1
    rw [hQ]
    exact rt_z hx hb hr hlocks (Or.inr rfl) (lb1, w, rb, hm, a1, wr, gt, tn, hh) ⟨rfl, h, good_letter hG hw1.1 hw1.2 ea1⟩ (hP.sub [4, 5, 6, 7, 0, 1, 2, 3] rfl) (hD.sub [4, 5, 6, 7, 0, 1, 2, 3] (by decide) rfl) hS (Nat.le_of_ble_eq_true rfl) (Nat.le_of_ble_eq_true rfl) dX0_call_76
  · refine lv_tableIn (off := 44) (tgt := 52) hx hb dX0_call_8 (by rw [hx7]; decide) (by rw [hx7]; decide) (by rw [hx7]; rfl) (by decide) ?_
    refine lv_aload_n hx hb dX0_call_52 rfl (lv_at hl 1 rfl) ?_
    refine lv_iload_n hx hb dX0_call_53 rfl (lv_at hl 0 rfl) ?_
    refine lv_iload_n hx hb dX0_call_54 rfl (lv_at hl 3 rfl) ?_
    refine lv_iconst (v := 5) hx hb dX0_call_55 (by decide) ?_
    refine lv_ishr hx hb dX0_call_56 ?_
    refine lv_topi (fun v9 ev9 => ?_)
    refine cl_Vv (As := [.int x3, .int v9]) (rest := []) (wr := [(g0, .inr (1, [.ref gl, .ref gw, .ref gt, .int hh])), (gl, .inl (dT 2, 4, .inl a)), (gw, .inl (dT 2, 4, .inl wr)), (gt, .inl (dT 3, 1536, .inl tn))]) (metX1_letter l D dT h0 ql qw qr lb w rb hm x3 v9) ⟨hx, hb, hml, hown, hts⟩ (cwV 2 hts (lw_V q93 q94 q95 q1 q96) rfl rfl rfl (by decide +kernel) ⟨Nat.le_of_ble_eq_true rfl, Nat.le_of_ble_eq_true rfl⟩) (ci := 0) rfl rfl hP hD hS hK hA [0, 1, 2, 3] [4, 5, 6, 7] rfl rfl rfl rfl (by decide) rfl hl.1 rfl (Nat.le_of_ble_eq_true rfl) dX0_call_57 ⟨Nat.le_of_ble_eq_true rfl, Nat.le_of_ble_eq_true rfl⟩ (fun lb1 H locs hw1 hP hD hS => ?_)
    have hP : va_P D vwCl [(g0, .inr (1, [.ref gl, .ref gw, .ref gt, .int hh])), (gl, .inl (dT 2, 4, .inl a)), (gw, .inl (dT 2, 4, .inl wr)), (gt, .inl (dT 3, 1536, .inl tn)), (h0, .inr (0, [.ref ql, .ref qw, .ref qr, .int hm])), (ql, .inl (dT 0, 4, .inl lb1)), (qw, .inl (dT 1, 24, .inr (.inl w))), (qr, .inl (dT 0, 4, .inl rb))] H := hP
    have hD : va_D A [(g0, .inr (1, [.ref gl, .ref gw, .ref gt, .int hh])), (gl, .inl (dT 2, 4, .inl a)), (gw, .inl (dT 2, 4, .inl wr)), (gt, .inl (dT 3, 1536, .inl tn)), (h0, .inr (0, [.ref ql, .ref qw, .ref qr, .int hm])), (ql, .inl (dT 0, 4, .inl lb1)), (qw, .inl (dT 1, 24, .inr (.inl w))), (qr, .inl (dT 0, 4, .inl rb))] := hD
    refine lv_aload_n hx hb dX0_call_60 rfl (lv_at hl 2 rfl) ?_
    refine va_get (D := D) (ci := 1) (v := .ref gl) (C := RX2) (T := TX2) (N := 4) hx hb hts in_X2 hown hK hP 0 rfl rfl 0 (by decide) (hts _ q41) (fun _ h9 => h9) rfl dX0_call_61 ?_
    refine lv_iload_n hx hb dX0_call_64 rfl (lv_at hl 0 rfl) ?_
    refine lv_iconst (v := 3) hx hb dX0_call_65 (by decide) ?_
    refine lv_iand hx hb dX0_call_66 ?_
    refine lv_iload_n hx hb dX0_call_67 rfl (lv_at hl 3 rfl) ?_
    refine lv_iconst (v := 5) hx hb dX0_call_68 (by decide) ?_
    refine lv_ishr hx hb dX0_call_69 ?_
    refine lv_sipush (v := 255) hx hb dX0_call_70 (by decide) ?_
    refine lv_iand hx hb dX0_call_73 ?_
    refine lv_topi (fun v8 ev8 => ?_)
    refine va_iast hx hb hK hP hD hS 1 2 rfl rfl (vin (n3_and x3) (n3_lt x3) (by decide)) dX0_call_74 (fun H locs hP hD hS => ?_)
    obtain ⟨a1, ea1⟩ : ∃ g : Nat → Int32, g = upd a ((x3 &&& 3) : Int32).toNatClampNeg v8 := ⟨_, rfl⟩
    have hP : va_P D vwCl [(g0, .inr (1, [.ref gl, .ref gw, .ref gt, .int hh])), (gl, .inl (dT 2, 4, .inl a1)), (gw, .inl (dT 2, 4, .inl wr)), (gt, .inl (dT 3, 1536, .inl tn)), (h0, .inr (0, [.ref ql, .ref qw, .ref qr, .int hm])), (ql, .inl (dT 0, 4, .inl lb1)), (qw, .inl (dT 1, 24, .inr (.inl w))), (qr, .inl (dT 0, 4, .inl rb))] H := by rw [ea1]; exact hP
    have hD : va_D A [(g0, .inr (1, [.ref gl, .ref gw, .ref gt, .int hh])), (gl, .inl (dT 2, 4, .inl a1)), (gw, .inl (dT 2, 4, .inl wr)), (gt, .inl (dT 3, 1536, .inl tn)), (h0, .inr (0, [.ref ql, .ref qw, .ref qr, .int hm])), (ql, .inl (dT 0, 4, .inl lb1)), (qw, .inl (dT 1, 24, .inr (.inl w))), (qr, .inl (dT 0, 4, .inl rb))] := by rw [ea1]; exact hD
    refine lv_iconst (v := 1) hx hb dX0_call_75 (by decide) ?_
    rw [cln (n3_and x3) (Nat.lt_trans (n3_lt x3) (by decide)), ev8, ← ev9] at ea1
    rw [hQ]
    exact rt_z hx hb hr hlocks (Or.inr rfl) (lb1, w, rb, hm, a1, wr, gt, tn, hh) ⟨rfl, h, good_letter hG hw1.1 hw1.2 ea1⟩ (hP.sub [4, 5, 6, 7, 0, 1, 2, 3] rfl) (hD.sub [4, 5, 6, 7, 0, 1, 2, 3] (by decide) rfl) hS (Nat.le_of_ble_eq_true rfl) (Nat.le_of_ble_eq_true rfl) dX0_call_76
  · refine lv_tableIn (off := 69) (tgt := 77) hx hb dX0_call_8 (by rw [hx7]; decide) (by rw [hx7]; decide) (by rw [hx7]; rfl) (by decide) ?_
    refine lv_aload_n hx hb dX0_call_77 rfl (lv_at hl 1 rfl) ?_
    refine lv_aload_n hx hb dX0_call_78 rfl (lv_at hl 2 rfl) ?_
    refine cl_Sv (As := [.ref h0, .ref g0]) (rest := []) (wr := []) (metX0_write l D dT h0 ql qw qr lb w rb hm g0 gl gw gt a wr tn hh h hG) ⟨hx, hb, hml, hown, hts⟩ (va_cwS 2 hts (lw_S q68 q69 q0 q70) rfl rfl rfl (by decide +kernel) ⟨Nat.le_of_ble_eq_true rfl, Nat.le_of_ble_eq_true rfl⟩) hP hD hS hK hA [0, 1, 2, 3, 4, 5, 6, 7] [] rfl rfl rfl rfl (by decide) rfl hl.1 rfl (Nat.le_of_ble_eq_true rfl) dX0_call_79 ⟨Nat.le_of_ble_eq_true rfl, Nat.le_of_ble_eq_true rfl⟩ (fun u H locs hw1 hP hD hS => ?_)
    have hP : va_P D vwCl [(h0, .inr (0, [.ref ql, .ref qw, .ref qr, .int 0])), (ql, .inl (dT 0, 4, .inl lb)), (qw, .inl (dT 1, 24, .inr (.inl u.1))), (qr, .inl (dT 0, 4, .inl rb)), (g0, .inr (1, [.ref gl, .ref gw, .ref u.2.2, .int 0])), (gl, .inl (dT 2, 4, .inl a)), (gw, .inl (dT 2, 4, .inl u.2.1)), (u.2.2, .inl (dT 3, 1536, .inl (fun _ => 0)))] H := hP
    have hD : va_D A [(h0, .inr (0, [.ref ql, .ref qw, .ref qr, .int 0])), (ql, .inl (dT 0, 4, .inl lb)), (qw, .inl (dT 1, 24, .inr (.inl u.1))), (qr, .inl (dT 0, 4, .inl rb)), (g0, .inr (1, [.ref gl, .ref gw, .ref u.2.2, .int 0])), (gl, .inl (dT 2, 4, .inl a)), (gw, .inl (dT 2, 4, .inl u.2.1)), (u.2.2, .inl (dT 3, 1536, .inl (fun _ => 0)))] := hD
    refine lv_iconst (v := 1) hx hb dX0_call_82 (by decide) ?_
    rw [hQ]
    exact rt_z hx hb hr hlocks (Or.inr rfl) (lb, u.1, rb, 0, a, u.2.1, u.2.2, (fun _ => 0), 0) ⟨rfl, 0, hw1⟩ hP hD hS (Nat.le_of_ble_eq_true rfl) (Nat.le_of_ble_eq_true rfl) dX0_call_83
  · refine lv_tableIn (off := 76) (tgt := 84) hx hb dX0_call_8 (by rw [hx7]; decide) (by rw [hx7]; decide) (by rw [hx7]; rfl) (by decide) ?_
    refine lv_aload_n hx hb dX0_call_84 rfl (lv_at hl 1 rfl) ?_
    refine lv_aload_n hx hb dX0_call_85 rfl (lv_at hl 2 rfl) ?_
    refine lv_iload_n hx hb dX0_call_86 rfl (lv_at hl 0 rfl) ?_
    refine cl_Si (As := [.ref h0, .ref g0, .int x3]) (rest := []) (wr := []) (metX0_harm l D dT h0 ql qw qr lb w rb hm g0 gl gw gt a wr tn hh h hG x3) ⟨hx, hb, hml, hown, hts⟩ (va_cwS 3 hts (lw_S q64 q65 q0 q66) rfl rfl rfl (by decide +kernel) ⟨Nat.le_of_ble_eq_true rfl, Nat.le_of_ble_eq_true rfl⟩) hP hD hS hK hA [0, 1, 2, 3, 4, 5, 6, 7] [] rfl rfl rfl rfl (by decide) rfl hl.1 rfl (Nat.le_of_ble_eq_true rfl) dX0_call_87 ⟨Nat.le_of_ble_eq_true rfl, Nat.le_of_ble_eq_true rfl⟩ (fun r1 u H locs hw1 hP hD hS => ?_)
    have hP : va_P D vwCl [(h0, .inr (0, [.ref ql, .ref qw, .ref qr, .int u.2.1])), (ql, .inl (dT 0, 4, .inl lb)), (qw, .inl (dT 1, 24, .inr (.inl u.1))), (qr, .inl (dT 0, 4, .inl rb)), (g0, .inr (1, [.ref gl, .ref gw, .ref gt, .int u.2.2.2])), (gl, .inl (dT 2, 4, .inl a)), (gw, .inl (dT 2, 4, .inl wr)), (gt, .inl (dT 3, 1536, .inl u.2.2.1))] H := hP
    have hD : va_D A [(h0, .inr (0, [.ref ql, .ref qw, .ref qr, .int u.2.1])), (ql, .inl (dT 0, 4, .inl lb)), (qw, .inl (dT 1, 24, .inr (.inl u.1))), (qr, .inl (dT 0, 4, .inl rb)), (g0, .inr (1, [.ref gl, .ref gw, .ref gt, .int u.2.2.2])), (gl, .inl (dT 2, 4, .inl a)), (gw, .inl (dT 2, 4, .inl wr)), (gt, .inl (dT 3, 1536, .inl u.2.2.1))] := hD
    rw [hQ]
    exact rt_z hx hb hr hlocks (Or.inr hw1.1) (lb, u.1, rb, u.2.1, a, wr, gt, u.2.2.1, u.2.2.2) ⟨hw1.1, _, hw1.2⟩ hP hD hS (Nat.le_of_ble_eq_true rfl) (Nat.le_of_ble_eq_true rfl) dX0_call_90
  · refine lv_tableIn (off := 83) (tgt := 91) hx hb dX0_call_8 (by rw [hx7]; decide) (by rw [hx7]; decide) (by rw [hx7]; rfl) (by decide) ?_
    refine lv_aload_n hx hb dX0_call_91 rfl (lv_at hl 1 rfl) ?_
    refine lv_aload_n hx hb dX0_call_92 rfl (lv_at hl 2 rfl) ?_
    refine lv_iload_n hx hb dX0_call_93 rfl (lv_at hl 3 rfl) ?_
    refine lv_bipush (v := 8) hx hb dX0_call_94 (by decide) ?_
    refine lv_iushr hx hb dX0_call_96 rfl ?_
    refine lv_topi (fun y1 ey1 => ?_)
    refine lv_iload_n hx hb dX0_call_97 rfl (lv_at hl 3 rfl) ?_
    refine lv_bipush (v := 20) hx hb dX0_call_98 (by decide) ?_
    refine lv_iushr hx hb dX0_call_100 rfl ?_
    refine lv_topi (fun y2 ey2 => ?_)
    refine lv_iconst (v := 1) hx hb dX0_call_101 (by decide) ?_
    refine lv_iload_n hx hb dX0_call_102 rfl (lv_at hl 0 rfl) ?_
    refine lv_bipush (v := 31) hx hb dX0_call_103 (by decide) ?_
    refine lv_iand hx hb dX0_call_105 ?_
    refine lv_iadd hx hb dX0_call_106 ?_
    refine lv_topi (fun y3 ey3 => ?_)
    have hy3 : y3 = nI (1 + x3.toBitVec.toNat % 32) := by rw [ey3, pk_and x3 (m := 31) 5 (by decide)]; exact adN (show (1 : Int32) = nI 1 from rfl) rfl
    have hM : 1 + x3.toBitVec.toNat % 32 ≤ 40 := by omega
    refine cl_Si (As := [.ref h0, .ref g0, .int y1, .int y2, .int y3]) (rest := []) (wr := []) (metX0_burst l D dT h0 ql qw qr lb w rb hm g0 gl gw gt a wr tn hh h hG y1 y2 y3 _ hM hy3) ⟨hx, hb, hml, hown, hts⟩ (va_cwS 5 hts (lw_S q61 q62 q0 q63) rfl rfl rfl (by decide +kernel) ⟨Nat.le_of_ble_eq_true rfl, Nat.le_of_ble_eq_true rfl⟩) hP hD hS hK hA [0, 1, 2, 3, 4, 5, 6, 7] [] rfl rfl rfl rfl (by decide) rfl hl.1 rfl (Nat.le_of_ble_eq_true rfl) dX0_call_107 ⟨Nat.le_of_ble_eq_true rfl, Nat.le_of_ble_eq_true rfl⟩ (fun r1 u H locs hw1 hP hD hS => ?_)
    have hP : va_P D vwCl [(h0, .inr (0, [.ref ql, .ref qw, .ref qr, .int u.2.1])), (ql, .inl (dT 0, 4, .inl lb)), (qw, .inl (dT 1, 24, .inr (.inl u.1))), (qr, .inl (dT 0, 4, .inl rb)), (g0, .inr (1, [.ref gl, .ref gw, .ref gt, .int u.2.2.2])), (gl, .inl (dT 2, 4, .inl a)), (gw, .inl (dT 2, 4, .inl wr)), (gt, .inl (dT 3, 1536, .inl u.2.2.1))] H := hP
    have hD : va_D A [(h0, .inr (0, [.ref ql, .ref qw, .ref qr, .int u.2.1])), (ql, .inl (dT 0, 4, .inl lb)), (qw, .inl (dT 1, 24, .inr (.inl u.1))), (qr, .inl (dT 0, 4, .inl rb)), (g0, .inr (1, [.ref gl, .ref gw, .ref gt, .int u.2.2.2])), (gl, .inl (dT 2, 4, .inl a)), (gw, .inl (dT 2, 4, .inl wr)), (gt, .inl (dT 3, 1536, .inl u.2.2.1))] := hD
    rw [hQ]
    exact rt_z hx hb hr hlocks (Or.inr hw1.1) (lb, u.1, rb, u.2.1, a, wr, gt, u.2.2.1, u.2.2.2) ⟨hw1.1, _, hw1.2⟩ hP hD hS (Nat.le_of_ble_eq_true rfl) (Nat.le_of_ble_eq_true rfl) dX0_call_110
  · refine lv_tableIn (off := 103) (tgt := 111) hx hb dX0_call_8 (by rw [hx7]; decide) (by rw [hx7]; decide) (by rw [hx7]; rfl) (by decide) ?_
    refine lv_aload_n hx hb dX0_call_111 rfl (lv_at hl 1 rfl) ?_
    refine lv_iload_n hx hb dX0_call_112 rfl (lv_at hl 0 rfl) ?_
    refine cl_Vi (As := [.int x3]) (rest := []) (wr := [(g0, .inr (1, [.ref gl, .ref gw, .ref gt, .int hh])), (gl, .inl (dT 2, 4, .inl a)), (gw, .inl (dT 2, 4, .inl wr)), (gt, .inl (dT 3, 1536, .inl tn))]) (metX1_bit l D dT h0 ql qw qr lb w rb hm x3) ⟨hx, hb, hml, hown, hts⟩ (cwV 1 hts (lw_V q97 q98 q99 q1 q100) rfl rfl rfl (by decide +kernel) ⟨Nat.le_of_ble_eq_true rfl, Nat.le_of_ble_eq_true rfl⟩) (ci := 0) rfl rfl hP hD hS hK hA [0, 1, 2, 3] [4, 5, 6, 7] rfl rfl rfl rfl (by decide) rfl hl.1 rfl (Nat.le_of_ble_eq_true rfl) dX0_call_113 ⟨Nat.le_of_ble_eq_true rfl, Nat.le_of_ble_eq_true rfl⟩ (fun r3 _u H locs hw3 hP hD hS => ?_)
    have hP : va_P D vwCl [(g0, .inr (1, [.ref gl, .ref gw, .ref gt, .int hh])), (gl, .inl (dT 2, 4, .inl a)), (gw, .inl (dT 2, 4, .inl wr)), (gt, .inl (dT 3, 1536, .inl tn)), (h0, .inr (0, [.ref ql, .ref qw, .ref qr, .int hm])), (ql, .inl (dT 0, 4, .inl lb)), (qw, .inl (dT 1, 24, .inr (.inl w))), (qr, .inl (dT 0, 4, .inl rb))] H := hP
    have hD : va_D A [(g0, .inr (1, [.ref gl, .ref gw, .ref gt, .int hh])), (gl, .inl (dT 2, 4, .inl a)), (gw, .inl (dT 2, 4, .inl wr)), (gt, .inl (dT 3, 1536, .inl tn)), (h0, .inr (0, [.ref ql, .ref qw, .ref qr, .int hm])), (ql, .inl (dT 0, 4, .inl lb)), (qw, .inl (dT 1, 24, .inr (.inl w))), (qr, .inl (dT 0, 4, .inl rb))] := hD
    refine lv_aload_n hx hb dX0_call_116 rfl (lv_at hl 2 rfl) ?_
    refine lv_iload_n hx hb dX0_call_117 rfl (lv_at hl 0 rfl) ?_
    refine lv_ldc hx hb hown (hts _ q67) dX0_call_118 ?_
    refine lv_iand hx hb dX0_call_120 ?_
    refine lv_sipush (v := 1536) hx hb dX0_call_121 (by decide) ?_
    refine lv_irem hx hb dX0_call_124 (by decide) ?_
    refine lv_topi (fun k9 ek9 => ?_)
    have hk9 : k9 = nI (kN x3) := by rw [ek9]; exact kN_rem x3 rfl rfl
    refine cl_Si (As := [.ref g0, .int k9]) (rest := [.int r3]) (wr := [(h0, .inr (0, [.ref ql, .ref qw, .ref qr, .int hm])), (ql, .inl (dT 0, 4, .inl lb)), (qw, .inl (dT 1, 24, .inr (.inl w))), (qr, .inl (dT 0, 4, .inl rb))]) (metX0_bit l D dT g0 gl gw gt a wr tn hh (kN x3) (kN_lt x3) k9 hk9) ⟨hx, hb, hml, hown, hts⟩ (va_cwS 2 hts (lw_S q101 q102 q0 q103) rfl rfl rfl (by decide +kernel) ⟨Nat.le_of_ble_eq_true rfl, Nat.le_of_ble_eq_true rfl⟩) hP hD hS hK hA [0, 1, 2, 3] [4, 5, 6, 7] rfl rfl rfl rfl (by decide) rfl hl.1 rfl (Nat.le_of_ble_eq_true rfl) dX0_call_125 ⟨Nat.le_of_ble_eq_true rfl, Nat.le_of_ble_eq_true rfl⟩ (fun r4 _u H locs hw4 hP hD hS => ?_)
    have hP : va_P D vwCl [(h0, .inr (0, [.ref ql, .ref qw, .ref qr, .int hm])), (ql, .inl (dT 0, 4, .inl lb)), (qw, .inl (dT 1, 24, .inr (.inl w))), (qr, .inl (dT 0, 4, .inl rb)), (g0, .inr (1, [.ref gl, .ref gw, .ref gt, .int hh])), (gl, .inl (dT 2, 4, .inl a)), (gw, .inl (dT 2, 4, .inl wr)), (gt, .inl (dT 3, 1536, .inl tn))] H := hP
    have hD : va_D A [(h0, .inr (0, [.ref ql, .ref qw, .ref qr, .int hm])), (ql, .inl (dT 0, 4, .inl lb)), (qw, .inl (dT 1, 24, .inr (.inl w))), (qr, .inl (dT 0, 4, .inl rb)), (g0, .inr (1, [.ref gl, .ref gw, .ref gt, .int hh])), (gl, .inl (dT 2, 4, .inl a)), (gw, .inl (dT 2, 4, .inl wr)), (gt, .inl (dT 3, 1536, .inl tn))] := hD
    have e3 : r3 = r4 := by rw [hw3, hw4]; exact good_bit hG (kN_lt x3)
    refine lv_icmp_ne (tgt := 135) hx hb dX0_call_128 (by decide) (fun c128 => ?_) (fun c128 => ?_)
    · exact absurd e3 c128
    · refine lv_iconst (v := 1) hx hb dX0_call_131 (by decide) ?_
      refine lv_goto (tgt := 136) hx hb dX0_call_132 (by decide) ?_
      rw [hQ]
      exact rt_z hx hb hr hlocks (Or.inr rfl) (lb, w, rb, hm, a, wr, gt, tn, hh) ⟨rfl, h, hG⟩ hP hD hS (Nat.le_of_ble_eq_true rfl) (Nat.le_of_ble_eq_true rfl) dX0_call_136
  · refine lv_tableIn (off := 129) (tgt := 137) hx hb dX0_call_8 (by rw [hx7]; decide) (by rw [hx7]; decide) (by rw [hx7]; rfl) (by decide) ?_
    refine lv_aload_n hx hb dX0_call_137 rfl (lv_at hl 1 rfl) ?_
    refine cl_Vi (As := []) (rest := []) (wr := [(g0, .inr (1, [.ref gl, .ref gw, .ref gt, .int hh])), (gl, .inl (dT 2, 4, .inl a)), (gw, .inl (dT 2, 4, .inl wr)), (gt, .inl (dT 3, 1536, .inl tn))]) (metX1_read l D dT h0 ql qw qr lb w rb hm) ⟨hx, hb, hml, hown, hts⟩ (cwV 0 hts (lw_V q107 q108 q109 q1 q110) rfl rfl rfl (by decide +kernel) ⟨Nat.le_of_ble_eq_true rfl, Nat.le_of_ble_eq_true rfl⟩) (ci := 0) rfl rfl hP hD hS hK hA [0, 1, 2, 3] [4, 5, 6, 7] rfl rfl rfl rfl (by decide) rfl hl.1 rfl (Nat.le_of_ble_eq_true rfl) dX0_call_138 ⟨Nat.le_of_ble_eq_true rfl, Nat.le_of_ble_eq_true rfl⟩ (fun r1 u H locs hw1 hP hD hS => ?_)
    have hP : va_P D vwCl [(g0, .inr (1, [.ref gl, .ref gw, .ref gt, .int hh])), (gl, .inl (dT 2, 4, .inl a)), (gw, .inl (dT 2, 4, .inl wr)), (gt, .inl (dT 3, 1536, .inl tn)), (h0, .inr (0, [.ref ql, .ref qw, .ref qr, .int hm])), (ql, .inl (dT 0, 4, .inl lb)), (qw, .inl (dT 1, 24, .inr (.inl w))), (qr, .inl (dT 0, 4, .inl u))] H := hP
    have hD : va_D A [(g0, .inr (1, [.ref gl, .ref gw, .ref gt, .int hh])), (gl, .inl (dT 2, 4, .inl a)), (gw, .inl (dT 2, 4, .inl wr)), (gt, .inl (dT 3, 1536, .inl tn)), (h0, .inr (0, [.ref ql, .ref qw, .ref qr, .int hm])), (ql, .inl (dT 0, 4, .inl lb)), (qw, .inl (dT 1, 24, .inr (.inl w))), (qr, .inl (dT 0, 4, .inl u))] := hD
    refine lv_aload_n hx hb dX0_call_141 rfl (lv_at hl 2 rfl) ?_
    refine va_get (D := D) (ci := 1) (v := .ref gw) (C := RX2) (T := TX2) (N := 4) hx hb hts in_X2 hown hK hP 0 rfl rfl 1 (by decide) (hts _ q43) (fun _ h9 => h9) rfl dX0_call_142 ?_
    refine cl_Si (As := [.ref gw]) (rest := [.int r1]) (wr := [(g0, .inr (1, [.ref gl, .ref gw, .ref gt, .int hh])), (gl, .inl (dT 2, 4, .inl a)), (gt, .inl (dT 3, 1536, .inl tn)), (h0, .inr (0, [.ref ql, .ref qw, .ref qr, .int hm])), (ql, .inl (dT 0, 4, .inl lb)), (qw, .inl (dT 1, 24, .inr (.inl w))), (qr, .inl (dT 0, 4, .inl u))]) (metX0_packed l D dT gw wr) ⟨hx, hb, hml, hown, hts⟩ (va_cwS 1 hts (lw_S q129 q130 q0 q131) rfl rfl rfl (by decide +kernel) ⟨Nat.le_of_ble_eq_true rfl, Nat.le_of_ble_eq_true rfl⟩) hP hD hS hK hA [2] [0, 1, 3, 4, 5, 6, 7] rfl rfl rfl rfl (by decide) rfl hl.1 rfl (Nat.le_of_ble_eq_true rfl) dX0_call_145 ⟨Nat.le_of_ble_eq_true rfl, Nat.le_of_ble_eq_true rfl⟩ (fun r2 _u H locs hw2 hP hD hS => ?_)
    have hP : va_P D vwCl [(g0, .inr (1, [.ref gl, .ref gw, .ref gt, .int hh])), (gl, .inl (dT 2, 4, .inl a)), (gt, .inl (dT 3, 1536, .inl tn)), (h0, .inr (0, [.ref ql, .ref qw, .ref qr, .int hm])), (ql, .inl (dT 0, 4, .inl lb)), (qw, .inl (dT 1, 24, .inr (.inl w))), (qr, .inl (dT 0, 4, .inl u)), (gw, .inl (dT 2, 4, .inl wr))] H := hP
    have hD : va_D A [(g0, .inr (1, [.ref gl, .ref gw, .ref gt, .int hh])), (gl, .inl (dT 2, 4, .inl a)), (gt, .inl (dT 3, 1536, .inl tn)), (h0, .inr (0, [.ref ql, .ref qw, .ref qr, .int hm])), (ql, .inl (dT 0, 4, .inl lb)), (qw, .inl (dT 1, 24, .inr (.inl w))), (qr, .inl (dT 0, 4, .inl u)), (gw, .inl (dT 2, 4, .inl wr))] := hD
    have heq : r1 = r2 := by rw [hw1.1, hw2]; exact good_read hG hw1.2
    refine lv_icmp_ne (tgt := 155) hx hb dX0_call_148 (by decide) (fun c148 => ?_) (fun c148 => ?_)
    · exact absurd heq c148
    · refine lv_iconst (v := 1) hx hb dX0_call_151 (by decide) ?_
      refine lv_goto (tgt := 156) hx hb dX0_call_152 (by decide) ?_
      rw [hQ]
      exact rt_z hx hb hr hlocks (Or.inr rfl) (lb, w, u, hm, a, wr, gt, tn, hh) ⟨rfl, h, hG⟩ (hP.sub [3, 4, 5, 6, 0, 1, 7, 2] rfl) (hD.sub [3, 4, 5, 6, 0, 1, 7, 2] (by decide) rfl) hS (Nat.le_of_ble_eq_true rfl) (Nat.le_of_ble_eq_true rfl) dX0_call_156
  · refine lv_tableOut (tgt := 157) hx hb dX0_call_8 (by rw [hx7]; exact Or.inr (by decide)) (by decide) ?_
    refine lv_aload_n hx hb dX0_call_157 rfl (lv_at hl 1 rfl) ?_
    refine lv_iload_n hx hb dX0_call_158 rfl (lv_at hl 0 rfl) ?_
    refine cl_Vi (As := [.int x3]) (rest := []) (wr := [(g0, .inr (1, [.ref gl, .ref gw, .ref gt, .int hh])), (gl, .inl (dT 2, 4, .inl a)), (gw, .inl (dT 2, 4, .inl wr)), (gt, .inl (dT 3, 1536, .inl tn))]) (metX1_letter_2 l D dT h0 ql qw qr lb w rb hm x3) ⟨hx, hb, hml, hown, hts⟩ (cwV 1 hts (lw_V q132 q133 q134 q1 q135) rfl rfl rfl (by decide +kernel) ⟨Nat.le_of_ble_eq_true rfl, Nat.le_of_ble_eq_true rfl⟩) (ci := 0) rfl rfl hP hD hS hK hA [0, 1, 2, 3] [4, 5, 6, 7] rfl rfl rfl rfl (by decide) rfl hl.1 rfl (Nat.le_of_ble_eq_true rfl) dX0_call_159 ⟨Nat.le_of_ble_eq_true rfl, Nat.le_of_ble_eq_true rfl⟩ (fun r3 _u H locs hw3 hP hD hS => ?_)
    have hP : va_P D vwCl [(g0, .inr (1, [.ref gl, .ref gw, .ref gt, .int hh])), (gl, .inl (dT 2, 4, .inl a)), (gw, .inl (dT 2, 4, .inl wr)), (gt, .inl (dT 3, 1536, .inl tn)), (h0, .inr (0, [.ref ql, .ref qw, .ref qr, .int hm])), (ql, .inl (dT 0, 4, .inl lb)), (qw, .inl (dT 1, 24, .inr (.inl w))), (qr, .inl (dT 0, 4, .inl rb))] H := hP
    have hD : va_D A [(g0, .inr (1, [.ref gl, .ref gw, .ref gt, .int hh])), (gl, .inl (dT 2, 4, .inl a)), (gw, .inl (dT 2, 4, .inl wr)), (gt, .inl (dT 3, 1536, .inl tn)), (h0, .inr (0, [.ref ql, .ref qw, .ref qr, .int hm])), (ql, .inl (dT 0, 4, .inl lb)), (qw, .inl (dT 1, 24, .inr (.inl w))), (qr, .inl (dT 0, 4, .inl rb))] := hD
    refine lv_aload_n hx hb dX0_call_162 rfl (lv_at hl 2 rfl) ?_
    refine va_get (D := D) (ci := 1) (v := .ref gl) (C := RX2) (T := TX2) (N := 4) hx hb hts in_X2 hown hK hP 0 rfl rfl 0 (by decide) (hts _ q41) (fun _ h9 => h9) rfl dX0_call_163 ?_
    refine lv_iload_n hx hb dX0_call_166 rfl (lv_at hl 0 rfl) ?_
    refine lv_iconst (v := 3) hx hb dX0_call_167 (by decide) ?_
    refine lv_iand hx hb dX0_call_168 ?_
    refine va_iald hx hb hK hP 1 2 rfl rfl (vin (n3_and x3) (n3_lt x3) (by decide)) dX0_call_169 ?_
    have e3 : r3 = a (x3 &&& 3).toNatClampNeg := by rw [hw3, cln (n3_and x3) (Nat.lt_trans (n3_lt x3) (by decide))]; exact (hG.1 _ (n3_lt x3)).symm
    refine lv_icmp_ne (tgt := 177) hx hb dX0_call_170 (by decide) (fun c170 => ?_) (fun c170 => ?_)
    · exact absurd e3 c170
    · refine lv_iconst (v := 1) hx hb dX0_call_173 (by decide) ?_
      refine lv_goto (tgt := 178) hx hb dX0_call_174 (by decide) ?_
      rw [hQ]
      exact rt_z hx hb hr hlocks (Or.inr rfl) (lb, w, rb, hm, a, wr, gt, tn, hh) ⟨rfl, h, hG⟩ (hP.sub [4, 5, 6, 7, 0, 1, 2, 3] rfl) (hD.sub [4, 5, 6, 7, 0, 1, 2, 3] (by decide) rfl) hS (Nat.le_of_ble_eq_true rfl) (Nat.le_of_ble_eq_true rfl) dX0_call_178
end
section
set_option maxRecDepth 100000
-- ===== end of PART A; then your names; then what follows =====
/-! THE CLAIM OUT OF ONE WALK OF THE LAW'S BODY. Your part is whole_start (and what it stands on); all else here is the same for every law, but numbers. -/
def R_law : String := "InnerCodeLaw"
def lw_P (b : Addr) (xs : List Int32) (args : Array Value) (s : State) : Prop := args = #[.ref b] ∧ s.IntsAt b xs ∧ xs.length ≤ 60 ∧ (Jvm.Cond.and given_1 narrow_1).before args s = true
def lw_Q (_ : Array Value) (s : State) (o : Outcome) (t : State) : Prop := o = .returned (some (.int 1)) ∧ Framed s o t [] 1200000 5502250
def lw_Z (below : List Frame) (a : Array Value) (s : State) : State → Prop := fun t => ∃ o, t.status = .running ∧ Ended t below o ∧ lw_Q a s o t
/-- the law's own end, with 1 on the stack, nothing written that was there before, its room as the claim has it -/
theorem lw_ret {p : Program} {l : Launch} {e : Env} {s : State} {m : MethodId} {below : List Frame} {meth : Method} {c : Code} {b : Nat} (hx : p.tables.exec = Jvm.exec) (hb : c.code = code) (hr : meth.sig.returnType = ret) (hlocks : meth.locks = false) {pc : Nat} {H : Heap} {ls : Array Slot} (hdg : decode code pc = .ok (.ireturn, 1)) : W p l e room_1 s m #[Value.ref b] below meth c H [] 1200000 5502250 (lw_Z below #[Value.ref b] s) (F0 m pc ls [.int 1]) := by
  intro T hT X
  obtain ⟨fs, hret, hrun, hended, hW, hframe⟩ := X.leave (v := some (.int 1)) (hlocks := hlocks) (fun h => by rw [hr] at h; cases h)
  have hmeth' : T.vm.method? m = some meth := X.method'
  refine ⟨T.setFrames fs, ?_, .returned (some (.int 1)), hrun, hended, rfl, ⟨_, rfl⟩, hW, hframe⟩
  jvm_step X.here [X.here.top, hx, hb, hdg, hmeth', hr, ret, narrow_b1]
  (try refine ⟨rfl, ?_⟩); (try refine ⟨rfl, ?_⟩)
  first | (intro acts; rw [hret _ acts rfl rfl rfl]) | rw [hret _ _ rfl rfl rfl]
  exact Steps.refl _
/-- what holds at the law's entry: the machine, the code, the tables' words (any of lw_tbl by 'hts w (by decide +kernel)'), the script of L ints xs at the cell b, what the Statement gives of the start (any of its parts by flat_of_before) -/
def lw_At (p : Program) (s : State) (m : MethodId) (meth : Method) (c : Code) (b L : Nat) (xs : Nat → Int32) : Prop :=
  p.tables.exec = Jvm.exec ∧ c.code = code ∧ meth.sig.returnType = ret ∧ c.maxLocals = 4 ∧ s.vm.findClass R_law = some m.cls ∧ (∀ w ∈ lw_tbl, w.before #[Value.ref b] s = true) ∧ va_X b L xs s s.heap ∧ b < s.heap.size ∧ meth.locks = false ∧ (Jvm.Cond.and given_1 narrow_1).before #[Value.ref b] s = true
theorem arr_kn {args : Array Value} {s : State} (h0 : (Cond.arrayClass .byte).before args s = true) (h1 : (Cond.arrayClass .long).before args s = true) (h2 : (Cond.arrayClass .int).before args s = true) (h3 : (Cond.arrayClass .boolean).before args s = true) : ∃ dT : Nat → ClassId, ∀ (k : Nat) (q : ClassId × FieldType), (aty dT)[k]? = some q → ArrOfT s q.1 q.2 ∧ va_RA s q.1 q.2 := by
  obtain ⟨t0, k0, p0, a0, b0, c0⟩ := Cond.arrayClass_spec h0
  obtain ⟨t1, k1, p1, a1, b1, c1⟩ := Cond.arrayClass_spec h1
  obtain ⟨t2, k2, p2, a2, b2, c2⟩ := Cond.arrayClass_spec h2
  obtain ⟨t3, k3, p3, a3, b3, c3⟩ := Cond.arrayClass_spec h3
  refine ⟨fun k => if k = 0 then t0 else if k = 1 then t1 else if k = 2 then t2 else t3, ?_⟩
  intro k q hq
  match k, hq with
  | 0, hq => cases hq; exact ⟨fun n z => ⟨fun k h => (by cases h), k0, b0, p0, c0⟩, a0⟩
  | 1, hq => cases hq; exact ⟨fun n z => ⟨fun k h => (by cases h), k1, b1, p1, c1⟩, a1⟩
  | 2, hq => cases hq; exact ⟨fun n z => ⟨fun k h => (by cases h), k2, b2, p2, c2⟩, a2⟩
  | 3, hq => cases hq; exact ⟨fun n z => ⟨fun k h => (by cases h), k3, b3, p3, c3⟩, a3⟩
  | k + 4, hq => simp [aty] at hq
abbrev rm_X0_cell : Room := { frames := 0, cells := 0, slots := 0, locals := 0 }
set_option maxHeartbeats 4000000 in
set_option maxRecDepth 100000 in
/-- cell(s, k): reads the script, changes nothing -/
theorem met_cell (l : Launch) (b L : Nat) (xs : Nat → Int32) (x : Int32) (k : Nat) (hxk : x = nI k) (hk : k < 2 ^ 31) (hL : L < 2 ^ 31) : Met l yX0_cell (ws_ yX0_cell cX0_cell 2 (some .int)) rm_X0_cell (va_Pc [.ref b, .int x] (fun U => va_X b L xs U U.heap)) (va_Qi (fun (_ : Int32) (_ : Unit) => True) (fun _ _ => True) (fun _ => False)) 0 0 (fun _ => False) := by
  refine Met.ofW (cc := cX0_cell) (maxL := 2) (ret := some .int) (by decide) rfl ?_
  intro p e s m args below meth c s₁ B hml hv
  obtain ⟨rfl, hX⟩ := hv
  have hx := B.exec
  have hb := B.bytes
  have hr := B.returns
  have hlocks := B.notSynchronized
  have hbl : b < s.heap.size := by
    obtain ⟨scr, h1, -⟩ := hX
    exact (Array.getElem?_eq_some_iff.mp h1).1
  have hbA : ¬ (fun _ : Nat => False) b := fun h => h
  have hS : va_S (fun _ => False) s.heap s.heap [] := va_S.rf
  have hl := lv_entry ([.ref b, .int x]) (n := 2) (Nat.le_of_ble_eq_true rfl)
  rw [lg_entry_eq]
  generalize (lg_sl ([.ref b, .int x]) ++ List.replicate (2 - (lg_sl ([.ref b, .int x])).length) Slot.unset).toArray = ls at hl ⊢
  have hl : lv_has ls 2 [(0, .ref b), (1, .int x)] := hl
  refine lv_iload_n hx hb dX0_cell_0 rfl (lv_at hl 1 rfl) ?_
  refine lv_aload_n hx hb dX0_cell_1 rfl (lv_at hl 0 rfl) ?_
  refine va_slen hx hb hX hbl hbA hS dX0_cell_2 ?_
  refine lv_icmp_ge (tgt := 12) hx hb dX0_cell_3 (by decide) (fun c3 => ?_) (fun c3 => ?_)
  · refine lv_iconst (v := 0) hx hb dX0_cell_12 (by decide) ?_
    exact W.iret hx hb hr (fun t ht hW => ⟨⟨0, (), rfl, trivial, trivial⟩, hS.F ht⟩) hS.2.2 dX0_cell_13 hlocks
  · have hlt : k < L := ge_f c3 hxk rfl hk hL
    refine lv_aload_n hx hb dX0_cell_6 rfl (lv_at hl 0 rfl) ?_
    refine lv_iload_n hx hb dX0_cell_7 rfl (lv_at hl 1 rfl) ?_
    refine va_sld hx hb hX hbl hbA hS (vin hxk hlt hL) dX0_cell_8 ?_
    refine lv_goto (tgt := 13) hx hb dX0_cell_9 (by decide) ?_
    exact W.iret hx hb hr (fun t ht hW => ⟨⟨_, (), rfl, trivial, trivial⟩, hS.F ht⟩) hS.2.2 dX0_cell_13 hlocks
theorem cl_cell {p : Program} {l : Launch} {e : Env} {R : Room} {s : State} {m : MethodId} {args : Array Value} {below : List Frame} {meth : Method} {c : Code} {H : Heap} {locs : List Loc} {cells slots : Nat} {Q : State → Prop} {pc : Nat} {ls : Array Slot} {rest st0 : List Value} {A : Nat → Prop} {D : va_G} {ws : va_W} {cc : ByteArray} {nL : Nat}
    {b L : Nat} {xs : Nat → Int32} {x : Int32} (k : Nat) (hxk : x = nI k) (hk : k < 2 ^ 31) (hL : L < 2 ^ 31) (hX : va_X b L xs s s.heap) (hbl : b < s.heap.size) (hbA : ¬ A b)
    (S0 : CallFix p m c cc nL s args lw_all RX0) (hP : va_P D vwCl ws H) (hS : va_S A s.heap H locs) (hfr : 1 ≤ R.frames) (hlo : 21 ≤ R.locals)
    (hsize : ls.size = nL) (hstack : st0 = [.int x, .ref b] ++ rest) (hW : (rest.map fun v => v.category).sum ≤ 8) (hdg : decode cc pc = .ok (.invokestatic 73, 3)) (hf : cells ≤ R.cells ∧ slots ≤ R.slots)
    (kk : ∀ (r : Int32) (H1 : Heap) (locs1 : List Loc), va_P D vwCl ws H1 → va_S A s.heap H1 locs1 → W p l e R s m args below meth c H1 locs1 cells slots Q (F0 m (pc + 3) ls (.int r :: rest))) :
    W p l e R s m args below meth c H locs cells slots Q (F0 m pc ls st0) := by
  refine va_calli (va_runS (As := [.ref b, .int x]) (rest := rest) S0 (met_cell l b L xs x k hxk hk hL) (va_cwS 2 S0.2.2.2.2 (lw_S q58 q59 q0 q60) rfl rfl rfl (by decide +kernel) ⟨hfr, hlo⟩) ⟨fun a U g mk q => ⟨q.1, va_X.moved (u := U) (U := U.calling g mk a) (Vm.Alike.refl U.vm) q.2⟩, fun U hU hW => ⟨rfl, by show va_X b L xs U U.heap; rw [hU]; exact (hX.kept (hS.2.1 b hbl hbA)).moved hW.alike⟩⟩ rfl rfl hsize hstack (lv_room hW) hdg hf) hS (fun q _ h => h.elim) (fun q h => h.elim) (fun r u t H1 locs1 ht hvm hw hB hz1 hk1 hS1 => ?_)
  exact kk r H1 locs1 (hP.kept (fun j q hq => hk1 q.1 ((hP j q hq).lt) (fun h => h))) hS1
set_option maxHeartbeats 4000000 in
set_option maxRecDepth 100000 in
/-- THE LAW: from the entry, for every script of at most 60 ints, the law comes to its end with true ('hflags': the launch's flags, for a law that throws: no stack traces) -/
theorem whole_start {p : Program} {e : Env} {s : State} {m : MethodId} {below : List Frame} {meth : Method} {c : Code} (l : Launch) (hflags : l.flags = flags0) {b L : Nat} {xs : Nat → Int32} (hL : L ≤ 60) (C0 : lw_At p s m meth c b L xs) : W p l e room_1 s m #[Value.ref b] below meth c s.heap [] 0 0 (lw_Z below #[Value.ref b] s) (entryFrame m ([Value.ref b] : List Value).toArray 4) := by
  obtain ⟨hx, hb, hr, hml, hown, hts0, hX, hbl, hlocks, hgv⟩ := id C0
  have hts : ∀ w ∈ lw_all, w.before #[Value.ref b] s = true := fun w h => hts0 w (lw_all_tbl h)
  have hown : s.vm.findClass RX0 = some m.cls := hown
  obtain ⟨A, hAe⟩ : ∃ A : Nat → Prop, A = fun q : Nat => s.heap.size ≤ q := ⟨_, rfl⟩
  have hA : ∀ q : Nat, s.heap.size ≤ q → A q := by rw [hAe]; exact fun _ h => h
  have hbA : ¬ A b := by rw [hAe]; exact Nat.not_le.mpr hbl
  have hL31 : L < 2 ^ 31 := by omega
  obtain ⟨c1_, i1_, hKn1⟩ := u_known (C := RX1) (T := TX1) (N := 4) (n := 4) hts0 (fun w h => lw_all_tbl (in_X1 w h)) (hts0 _ (lw_all_tbl q7))
  obtain ⟨c2_, i2_, hKn2⟩ := u_known (C := RX2) (T := TX2) (N := 4) (n := 4) hts0 (fun w h => lw_all_tbl (in_X2 w h)) (hts0 _ (lw_all_tbl q35))
  obtain ⟨dT, hdT⟩ := arr_kn (hts _ q27) (hts _ q28) (hts _ q56) (hts _ q57)
  obtain ⟨D, hK⟩ : ∃ D : va_G, va_K D vwCl (aty dT) s := by
    refine ⟨(fun k => if k = 0 then c1_ else c2_, fun k => if k = 0 then i1_ else i2_), ?_, hdT⟩
    intro k q hq
    match k, hq with
    | 0, hq => cases hq; exact hKn1
    | 1, hq => cases hq; exact hKn2
    | k + 2, hq => simp [vwCl] at hq
  have hS : va_S A s.heap s.heap [] := va_S.rf
  have hP : va_P D vwCl [] s.heap := fun k q h => by simp at h
  have hD : va_D A [] := ⟨fun i j p q h => by simp at h, fun k q h => by simp at h⟩
  have hl := lv_entry ([.ref b]) (n := 4) (Nat.le_of_ble_eq_true rfl)
  rw [lg_entry_eq]
  generalize (lg_sl ([.ref b]) ++ List.replicate (4 - (lg_sl ([.ref b])).length) Slot.unset).toArray = ls at hl ⊢
  have hl : lv_has ls 4 [(0, .ref b)] := hl
  refine va_new (ci := 0) (fs := [.null, .null, .null, .int 0]) (C := RX1) (T := TX1) (N := 4) hx hb hts in_X1 tyX1 tyX1_ok hown (hts _ q6) (hts _ q7) (hts _ q1) hK hP hD hS hA rfl (fun j hj => by rcases (show j = 0 ∨ j = 1 ∨ j = 2 ∨ j = 3 by omega) with rfl | rfl | rfl | rfl <;> rfl) (Nat.le_of_ble_eq_true rfl) (Nat.le_of_ble_eq_true rfl) dL_law_0 (fun h0 H hP hD hS => ?_)
  have hP : va_P D vwCl [(h0, .inr (0, [.null, .null, .null, .int 0]))] H := hP
  have hD : va_D A [(h0, .inr (0, [.null, .null, .null, .int 0]))] := hD
  refine lv_dup hx hb dL_law_3 rfl ?_
  refine cl_Iv (As := []) (rest := [.ref h0]) (wr := []) (metX1_init l D dT h0) ⟨hx, hb, hml, hown, hts⟩ (cwI 0 hts (lw_meth q10) rfl rfl rfl (hts _ q1) (hts _ q8) (hts _ q9) rfl (by decide +kernel) ⟨Nat.le_of_ble_eq_true rfl, Nat.le_of_ble_eq_true rfl⟩) hP hD hS hK hA [0] [] rfl rfl rfl rfl (by decide) rfl hl.1 rfl (Nat.le_of_ble_eq_true rfl) dL_law_4 ⟨Nat.le_of_ble_eq_true rfl, Nat.le_of_ble_eq_true rfl⟩ (fun u1 H locs _hw1 hP hD hS => ?_)
  have hP : va_P D vwCl [(h0, .inr (0, [.ref u1.1, .ref u1.2.1, .ref u1.2.2, .int 0])), (u1.1, .inl (dT 0, 4, .inl (fun _ => 0))), (u1.2.1, .inl (dT 1, 24, .inr (.inl (fun _ => 0)))), (u1.2.2, .inl (dT 0, 4, .inl (fun _ => 0)))] H := hP
  have hD : va_D A [(h0, .inr (0, [.ref u1.1, .ref u1.2.1, .ref u1.2.2, .int 0])), (u1.1, .inl (dT 0, 4, .inl (fun _ => 0))), (u1.2.1, .inl (dT 1, 24, .inr (.inl (fun _ => 0)))), (u1.2.2, .inl (dT 0, 4, .inl (fun _ => 0)))] := hD
  refine lv_astore_n (lv' := [(1, .ref h0), (0, .ref b)]) hx hb dL_law_7 rfl hl (by decide) rfl (fun ls hl => ?_)
  refine va_new (ci := 1) (fs := [.null, .null, .null, .int 0]) (C := RX2) (T := TX2) (N := 4) hx hb hts in_X2 tyX2 tyX2_ok hown (hts _ q34) (hts _ q35) (hts _ q2) hK hP hD hS hA rfl (fun j hj => by rcases (show j = 0 ∨ j = 1 ∨ j = 2 ∨ j = 3 by omega) with rfl | rfl | rfl | rfl <;> rfl) (Nat.le_of_ble_eq_true rfl) (Nat.le_of_ble_eq_true rfl) dL_law_8 (fun g0 H hP hD hS => ?_)
  have hP : va_P D vwCl [(h0, .inr (0, [.ref u1.1, .ref u1.2.1, .ref u1.2.2, .int 0])), (u1.1, .inl (dT 0, 4, .inl (fun _ => 0))), (u1.2.1, .inl (dT 1, 24, .inr (.inl (fun _ => 0)))), (u1.2.2, .inl (dT 0, 4, .inl (fun _ => 0))), (g0, .inr (1, [.null, .null, .null, .int 0]))] H := hP
  have hD : va_D A [(h0, .inr (0, [.ref u1.1, .ref u1.2.1, .ref u1.2.2, .int 0])), (u1.1, .inl (dT 0, 4, .inl (fun _ => 0))), (u1.2.1, .inl (dT 1, 24, .inr (.inl (fun _ => 0)))), (u1.2.2, .inl (dT 0, 4, .inl (fun _ => 0))), (g0, .inr (1, [.null, .null, .null, .int 0]))] := hD
  refine lv_dup hx hb dL_law_11 rfl ?_
  refine cl_Iv (As := []) (rest := [.ref g0]) (wr := [(h0, .inr (0, [.ref u1.1, .ref u1.2.1, .ref u1.2.2, .int 0])), (u1.1, .inl (dT 0, 4, .inl (fun _ => 0))), (u1.2.1, .inl (dT 1, 24, .inr (.inl (fun _ => 0)))), (u1.2.2, .inl (dT 0, 4, .inl (fun _ => 0)))]) (metX2_init l D dT g0) ⟨hx, hb, hml, hown, hts⟩ (cwI 0 hts (lw_meth q38) rfl rfl rfl (hts _ q2) (hts _ q36) (hts _ q37) rfl (by decide +kernel) ⟨Nat.le_of_ble_eq_true rfl, Nat.le_of_ble_eq_true rfl⟩) hP hD hS hK hA [4] [0, 1, 2, 3] rfl rfl rfl rfl (by decide) rfl hl.1 rfl (Nat.le_of_ble_eq_true rfl) dL_law_12 ⟨Nat.le_of_ble_eq_true rfl, Nat.le_of_ble_eq_true rfl⟩ (fun u2 H locs _hw2 hP hD hS => ?_)
  have hP : va_P D vwCl [(h0, .inr (0, [.ref u1.1, .ref u1.2.1, .ref u1.2.2, .int 0])), (u1.1, .inl (dT 0, 4, .inl (fun _ => 0))), (u1.2.1, .inl (dT 1, 24, .inr (.inl (fun _ => 0)))), (u1.2.2, .inl (dT 0, 4, .inl (fun _ => 0))), (g0, .inr (1, [.ref u2.1, .ref u2.2.1, .ref u2.2.2, .int 0])), (u2.1, .inl (dT 2, 4, .inl (fun _ => 0))), (u2.2.1, .inl (dT 2, 4, .inl (fun _ => 0))), (u2.2.2, .inl (dT 3, 1536, .inl (fun _ => 0)))] H := hP
  have hD : va_D A [(h0, .inr (0, [.ref u1.1, .ref u1.2.1, .ref u1.2.2, .int 0])), (u1.1, .inl (dT 0, 4, .inl (fun _ => 0))), (u1.2.1, .inl (dT 1, 24, .inr (.inl (fun _ => 0)))), (u1.2.2, .inl (dT 0, 4, .inl (fun _ => 0))), (g0, .inr (1, [.ref u2.1, .ref u2.2.1, .ref u2.2.2, .int 0])), (u2.1, .inl (dT 2, 4, .inl (fun _ => 0))), (u2.2.1, .inl (dT 2, 4, .inl (fun _ => 0))), (u2.2.2, .inl (dT 3, 1536, .inl (fun _ => 0)))] := hD
  refine lv_astore_n (lv' := [(2, .ref g0), (1, .ref h0), (0, .ref b)]) hx hb dL_law_15 rfl hl (by decide) rfl (fun ls hl => ?_)
  refine lv_iconst (v := 0) hx hb dL_law_16 (by decide) ?_
  refine lv_istore_n (lv' := [(3, .int 0), (2, .ref g0), (1, .ref h0), (0, .ref b)]) hx hb dL_law_17 rfl hl (by decide) rfl (fun ls hl => ?_)
  obtain ⟨ql, qw, qr⟩ := u1
  obtain ⟨gl, gw, gt0⟩ := u2
  have outer : ∀ (n : Nat) (i : Nat) (x3 : Int32) (lb : Nat → Int32) (w : Nat → Int64) (rb : Nat → Int32) (hm : Int32) (a wr : Nat → Int32) (gt : Nat) (tn : Nat → Int32) (hh : Int32) (H : Heap) (locs : List Loc) (ls : Array Slot), i ≤ 60 → 61 ≤ i + n → x3 = nI i → (∃ h : Nat, Good lb a wr tn w hm hh h) → va_P D vwCl [(h0, .inr (0, [.ref ql, .ref qw, .ref qr, .int hm])), (ql, .inl (dT 0, 4, .inl lb)), (qw, .inl (dT 1, 24, .inr (.inl w))), (qr, .inl (dT 0, 4, .inl rb)), (g0, .inr (1, [.ref gl, .ref gw, .ref gt, .int hh])), (gl, .inl (dT 2, 4, .inl a)), (gw, .inl (dT 2, 4, .inl wr)), (gt, .inl (dT 3, 1536, .inl tn))] H → va_D A [(h0, .inr (0, [.ref ql, .ref qw, .ref qr, .int hm])), (ql, .inl (dT 0, 4, .inl lb)), (qw, .inl (dT 1, 24, .inr (.inl w))), (qr, .inl (dT 0, 4, .inl rb)), (g0, .inr (1, [.ref gl, .ref gw, .ref gt, .int hh])), (gl, .inl (dT 2, 4, .inl a)), (gw, .inl (dT 2, 4, .inl wr)), (gt, .inl (dT 3, 1536, .inl tn))] → va_S A s.heap H locs → lv_has ls 4 [(0, .ref b), (1, .ref h0), (2, .ref g0), (3, .int x3)] → W p l e room_1 s m #[Value.ref b] below meth c H locs (8 + 4 * i) (1584 + 1540 * i) (lw_Z below #[Value.ref b] s) (F0 m 18 ls []) := by
    intro n
    induction n with
    | zero =>
      intro i x3 lb w rb hm a wr gt tn hh H locs ls h1 h2 h3 h4
      exact absurd h2 (by omega)
    | succ n ih =>
      intro i x3 lb w rb hm a wr gt tn hh H locs ls h1 h2 h3 h4 hP hD hS hl
      obtain ⟨h, hG⟩ := h4
      refine lv_iload_n hx hb dL_law_18 rfl (lv_at hl 3 rfl) ?_
      refine lv_bipush (v := 60) hx hb dL_law_19 (by decide) ?_
      refine lv_icmp_ge (tgt := 45) hx hb dL_law_21 (by decide) (fun c21 => ?_) (fun c21 => ?_)
      · have hi : i = 60 := by have := ge_t c21 h3 (show (60 : Int32) = nI 60 from rfl) (by omega) (by omega); omega
        subst hi
        refine W.widen (k := 248) (n := 93984) (Nat.le_of_ble_eq_true rfl) (Nat.le_of_ble_eq_true rfl) ?_
        refine lv_aload_n hx hb dL_law_45 rfl (lv_at hl 1 rfl) ?_
        refine lv_aload_n hx hb dL_law_46 rfl (lv_at hl 2 rfl) ?_
        refine cl_Si (As := [.ref h0, .ref g0]) (rest := []) (wr := []) (metX0_stand l D dT h0 ql qw qr lb w rb hm g0 gl gw gt a wr tn hh h hG) ⟨hx, hb, hml, hown, hts⟩ (va_cwS 2 hts (lw_S q136 q137 q0 q138) rfl rfl rfl (by decide +kernel) ⟨Nat.le_of_ble_eq_true rfl, Nat.le_of_ble_eq_true rfl⟩) hP hD hS hK hA [0, 1, 2, 3, 4, 5, 6, 7] [] rfl rfl rfl rfl (by decide) rfl hl.1 rfl (Nat.le_of_ble_eq_true rfl) dL_law_47 ⟨Nat.le_of_ble_eq_true rfl, Nat.le_of_ble_eq_true rfl⟩ (fun r1 rb1 H locs hr1 hP hD hS => ?_)
        have hP : va_P D vwCl [(h0, .inr (0, [.ref ql, .ref qw, .ref qr, .int hm])), (ql, .inl (dT 0, 4, .inl lb)), (qw, .inl (dT 1, 24, .inr (.inl w))), (qr, .inl (dT 0, 4, .inl rb1)), (g0, .inr (1, [.ref gl, .ref gw, .ref gt, .int hh])), (gl, .inl (dT 2, 4, .inl a)), (gw, .inl (dT 2, 4, .inl wr)), (gt, .inl (dT 3, 1536, .inl tn))] H := hP
        have hD : va_D A [(h0, .inr (0, [.ref ql, .ref qw, .ref qr, .int hm])), (ql, .inl (dT 0, 4, .inl lb)), (qw, .inl (dT 1, 24, .inr (.inl w))), (qr, .inl (dT 0, 4, .inl rb1)), (g0, .inr (1, [.ref gl, .ref gw, .ref gt, .int hh])), (gl, .inl (dT 2, 4, .inl a)), (gw, .inl (dT 2, 4, .inl wr)), (gt, .inl (dT 3, 1536, .inl tn))] := hD
        refine lv_if_ne (tgt := 55) hx hb dL_law_50 (by decide) (fun c50 => ?_) (fun c50 => ?_)
        · refine lv_aload_n hx hb dL_law_55 rfl (lv_at hl 1 rfl) ?_
          refine lv_aload_n hx hb dL_law_56 rfl (lv_at hl 2 rfl) ?_
          refine cl_Sv (As := [.ref h0, .ref g0]) (rest := []) (wr := []) (metX0_write l D dT h0 ql qw qr lb w rb1 hm g0 gl gw gt a wr tn hh h hG) ⟨hx, hb, hml, hown, hts⟩ (va_cwS 2 hts (lw_S q68 q69 q0 q70) rfl rfl rfl (by decide +kernel) ⟨Nat.le_of_ble_eq_true rfl, Nat.le_of_ble_eq_true rfl⟩) hP hD hS hK hA [0, 1, 2, 3, 4, 5, 6, 7] [] rfl rfl rfl rfl (by decide) rfl hl.1 rfl (Nat.le_of_ble_eq_true rfl) dL_law_57 ⟨Nat.le_of_ble_eq_true rfl, Nat.le_of_ble_eq_true rfl⟩ (fun u H locs hG2 hP hD hS => ?_)
          have hP : va_P D vwCl [(h0, .inr (0, [.ref ql, .ref qw, .ref qr, .int 0])), (ql, .inl (dT 0, 4, .inl lb)), (qw, .inl (dT 1, 24, .inr (.inl u.1))), (qr, .inl (dT 0, 4, .inl rb1)), (g0, .inr (1, [.ref gl, .ref gw, .ref u.2.2, .int 0])), (gl, .inl (dT 2, 4, .inl a)), (gw, .inl (dT 2, 4, .inl u.2.1)), (u.2.2, .inl (dT 3, 1536, .inl (fun _ => 0)))] H := hP
          have hD : va_D A [(h0, .inr (0, [.ref ql, .ref qw, .ref qr, .int 0])), (ql, .inl (dT 0, 4, .inl lb)), (qw, .inl (dT 1, 24, .inr (.inl u.1))), (qr, .inl (dT 0, 4, .inl rb1)), (g0, .inr (1, [.ref gl, .ref gw, .ref u.2.2, .int 0])), (gl, .inl (dT 2, 4, .inl a)), (gw, .inl (dT 2, 4, .inl u.2.1)), (u.2.2, .inl (dT 3, 1536, .inl (fun _ => 0)))] := hD
          refine lv_aload_n hx hb dL_law_60 rfl (lv_at hl 1 rfl) ?_
          refine lv_aload_n hx hb dL_law_61 rfl (lv_at hl 2 rfl) ?_
          refine lv_aload_n hx hb dL_law_62 rfl (lv_at hl 0 rfl) ?_
          refine lv_iconst (v := 0) hx hb dL_law_63 (by decide) ?_
          refine cl_cell (A := A) (x := 0) (rest := [.ref g0, .ref h0]) 0 rfl (by omega) hL31 hX hbl hbA ⟨hx, hb, hml, hown, hts⟩ hP hS (Nat.le_of_ble_eq_true rfl) (Nat.le_of_ble_eq_true rfl) hl.1 rfl (Nat.le_of_ble_eq_true rfl) dL_law_64 ⟨Nat.le_of_ble_eq_true rfl, Nat.le_of_ble_eq_true rfl⟩ (fun r2 H locs hP hS => ?_)
          refine lv_aload_n hx hb dL_law_67 rfl (lv_at hl 0 rfl) ?_
          refine lv_iconst (v := 1) hx hb dL_law_68 (by decide) ?_
          refine cl_cell (A := A) (x := 1) (rest := [.int r2, .ref g0, .ref h0]) 1 rfl (by omega) hL31 hX hbl hbA ⟨hx, hb, hml, hown, hts⟩ hP hS (Nat.le_of_ble_eq_true rfl) (Nat.le_of_ble_eq_true rfl) hl.1 rfl (Nat.le_of_ble_eq_true rfl) dL_law_69 ⟨Nat.le_of_ble_eq_true rfl, Nat.le_of_ble_eq_true rfl⟩ (fun r3 H locs hP hS => ?_)
          refine lv_bipush (v := 40) hx hb dL_law_72 (by decide) ?_
          refine cl_Si (As := [.ref h0, .ref g0, .int r2, .int r3, .int 40]) (rest := []) (wr := []) (metX0_burst l D dT h0 ql qw qr lb u.1 rb1 0 g0 gl gw u.2.2 a u.2.1 (fun _ => 0) 0 0 hG2 r2 r3 40 40 (by decide) rfl) ⟨hx, hb, hml, hown, hts⟩ (va_cwS 5 hts (lw_S q61 q62 q0 q63) rfl rfl rfl (by decide +kernel) ⟨Nat.le_of_ble_eq_true rfl, Nat.le_of_ble_eq_true rfl⟩) hP hD hS hK hA [0, 1, 2, 3, 4, 5, 6, 7] [] rfl rfl rfl rfl (by decide) rfl hl.1 rfl (Nat.le_of_ble_eq_true rfl) dL_law_74 ⟨Nat.le_of_ble_eq_true rfl, Nat.le_of_ble_eq_true rfl⟩ (fun r4 v H locs hw4 hP hD hS => ?_)
          have hP : va_P D vwCl [(h0, .inr (0, [.ref ql, .ref qw, .ref qr, .int v.2.1])), (ql, .inl (dT 0, 4, .inl lb)), (qw, .inl (dT 1, 24, .inr (.inl v.1))), (qr, .inl (dT 0, 4, .inl rb1)), (g0, .inr (1, [.ref gl, .ref gw, .ref u.2.2, .int v.2.2.2])), (gl, .inl (dT 2, 4, .inl a)), (gw, .inl (dT 2, 4, .inl u.2.1)), (u.2.2, .inl (dT 3, 1536, .inl v.2.2.1))] H := hP
          have hD : va_D A [(h0, .inr (0, [.ref ql, .ref qw, .ref qr, .int v.2.1])), (ql, .inl (dT 0, 4, .inl lb)), (qw, .inl (dT 1, 24, .inr (.inl v.1))), (qr, .inl (dT 0, 4, .inl rb1)), (g0, .inr (1, [.ref gl, .ref gw, .ref u.2.2, .int v.2.2.2])), (gl, .inl (dT 2, 4, .inl a)), (gw, .inl (dT 2, 4, .inl u.2.1)), (u.2.2, .inl (dT 3, 1536, .inl v.2.2.1))] := hD
          refine lv_if_eq (tgt := 104) hx hb dL_law_77 (by decide) (fun c77 => ?_) (fun c77 => ?_)
          · exact absurd c77 (by rw [hw4.1]; decide)
          · have hG3 := hw4.2
            refine lv_aload_n hx hb dL_law_80 rfl (lv_at hl 1 rfl) ?_
            refine lv_aload_n hx hb dL_law_81 rfl (lv_at hl 0 rfl) ?_
            refine lv_iconst (v := 2) hx hb dL_law_82 (by decide) ?_
            refine cl_cell (A := A) (x := 2) (rest := [.ref h0]) 2 rfl (by omega) hL31 hX hbl hbA ⟨hx, hb, hml, hown, hts⟩ hP hS (Nat.le_of_ble_eq_true rfl) (Nat.le_of_ble_eq_true rfl) hl.1 rfl (Nat.le_of_ble_eq_true rfl) dL_law_83 ⟨Nat.le_of_ble_eq_true rfl, Nat.le_of_ble_eq_true rfl⟩ (fun r5 H locs hP hS => ?_)
            refine cl_Vi (As := [.int r5]) (rest := []) (wr := [(g0, .inr (1, [.ref gl, .ref gw, .ref u.2.2, .int v.2.2.2])), (gl, .inl (dT 2, 4, .inl a)), (gw, .inl (dT 2, 4, .inl u.2.1)), (u.2.2, .inl (dT 3, 1536, .inl v.2.2.1))]) (metX1_harm l D dT h0 ql qw qr lb v.1 rb1 v.2.1 r5) ⟨hx, hb, hml, hown, hts⟩ (cwV 1 hts (lw_V q29 q30 q31 q1 q32) rfl rfl rfl (by decide +kernel) ⟨Nat.le_of_ble_eq_true rfl, Nat.le_of_ble_eq_true rfl⟩) (ci := 0) rfl rfl hP hD hS hK hA [0, 1, 2, 3] [4, 5, 6, 7] rfl rfl rfl rfl (by decide) rfl hl.1 rfl (Nat.le_of_ble_eq_true rfl) dL_law_86 ⟨Nat.le_of_ble_eq_true rfl, Nat.le_of_ble_eq_true rfl⟩ (fun r6 y H locs hw6 hP hD hS => ?_)
            have hP : va_P D vwCl [(g0, .inr (1, [.ref gl, .ref gw, .ref u.2.2, .int v.2.2.2])), (gl, .inl (dT 2, 4, .inl a)), (gw, .inl (dT 2, 4, .inl u.2.1)), (u.2.2, .inl (dT 3, 1536, .inl v.2.2.1)), (h0, .inr (0, [.ref ql, .ref qw, .ref qr, .int y.2])), (ql, .inl (dT 0, 4, .inl lb)), (qw, .inl (dT 1, 24, .inr (.inl y.1))), (qr, .inl (dT 0, 4, .inl rb1))] H := hP
            have hD : va_D A [(g0, .inr (1, [.ref gl, .ref gw, .ref u.2.2, .int v.2.2.2])), (gl, .inl (dT 2, 4, .inl a)), (gw, .inl (dT 2, 4, .inl u.2.1)), (u.2.2, .inl (dT 3, 1536, .inl v.2.2.1)), (h0, .inr (0, [.ref ql, .ref qw, .ref qr, .int y.2])), (ql, .inl (dT 0, 4, .inl lb)), (qw, .inl (dT 1, 24, .inr (.inl y.1))), (qr, .inl (dT 0, 4, .inl rb1))] := hD
            have e40 : v.2.1 = 40 := hG3.2.2.2.1
            obtain ⟨hr6, hy1, hy2⟩ := hw6.1 (by rw [e40]; decide)
            have hG4 : Good lb a u.2.1 v.2.2.1 y.1 y.2 v.2.2.2 40 := by rw [hy1, hy2]; exact hG3
            refine lv_if_ne (tgt := 104) hx hb dL_law_89 (by decide) (fun c89 => ?_) (fun c89 => ?_)
            · exact absurd hr6 c89
            · refine lv_aload_n hx hb dL_law_92 rfl (lv_at hl 1 rfl) ?_
              refine lv_aload_n hx hb dL_law_93 rfl (lv_at hl 2 rfl) ?_
              refine cl_Si (As := [.ref h0, .ref g0]) (rest := []) (wr := []) (metX0_stand l D dT h0 ql qw qr lb y.1 rb1 y.2 g0 gl gw u.2.2 a u.2.1 v.2.2.1 v.2.2.2 40 hG4) ⟨hx, hb, hml, hown, hts⟩ (va_cwS 2 hts (lw_S q136 q137 q0 q138) rfl rfl rfl (by decide +kernel) ⟨Nat.le_of_ble_eq_true rfl, Nat.le_of_ble_eq_true rfl⟩) hP hD hS hK hA [4, 5, 6, 7, 0, 1, 2, 3] [] rfl rfl rfl rfl (by decide) rfl hl.1 rfl (Nat.le_of_ble_eq_true rfl) dL_law_94 ⟨Nat.le_of_ble_eq_true rfl, Nat.le_of_ble_eq_true rfl⟩ (fun r7 rb2 H locs hr7 hP hD hS => ?_)
              have hP : va_P D vwCl [(h0, .inr (0, [.ref ql, .ref qw, .ref qr, .int y.2])), (ql, .inl (dT 0, 4, .inl lb)), (qw, .inl (dT 1, 24, .inr (.inl y.1))), (qr, .inl (dT 0, 4, .inl rb2)), (g0, .inr (1, [.ref gl, .ref gw, .ref u.2.2, .int v.2.2.2])), (gl, .inl (dT 2, 4, .inl a)), (gw, .inl (dT 2, 4, .inl u.2.1)), (u.2.2, .inl (dT 3, 1536, .inl v.2.2.1))] H := hP
              have hD : va_D A [(h0, .inr (0, [.ref ql, .ref qw, .ref qr, .int y.2])), (ql, .inl (dT 0, 4, .inl lb)), (qw, .inl (dT 1, 24, .inr (.inl y.1))), (qr, .inl (dT 0, 4, .inl rb2)), (g0, .inr (1, [.ref gl, .ref gw, .ref u.2.2, .int v.2.2.2])), (gl, .inl (dT 2, 4, .inl a)), (gw, .inl (dT 2, 4, .inl u.2.1)), (u.2.2, .inl (dT 3, 1536, .inl v.2.2.1))] := hD
              refine lv_if_eq (tgt := 104) hx hb dL_law_97 (by decide) (fun c97 => ?_) (fun c97 => ?_)
              · exact absurd c97 (by rw [hr7]; decide)
              · refine lv_iconst (v := 1) hx hb dL_law_100 (by decide) ?_
                refine lv_goto (tgt := 105) hx hb dL_law_101 (by decide) ?_
                refine va_forget (fun q hq => by have h9 := hS.2.2 q hq; rw [hAe] at h9; exact h9) ?_
                refine W.widen (k := 1200000) (n := 5502250) (Nat.le_of_ble_eq_true rfl) (Nat.le_of_ble_eq_true rfl) ?_
                exact lw_ret hx hb hr hlocks dL_law_105
        · exact absurd c50 (by rw [hr1]; decide)
      · have hi : i < 60 := ge_f c21 h3 (show (60 : Int32) = nI 60 from rfl) (by omega) (by omega)
        refine lv_aload_n hx hb dL_law_24 rfl (lv_at hl 1 rfl) ?_
        refine lv_aload_n hx hb dL_law_25 rfl (lv_at hl 2 rfl) ?_
        refine lv_aload_n hx hb dL_law_26 rfl (lv_at hl 0 rfl) ?_
        refine lv_iload_n hx hb dL_law_27 rfl (lv_at hl 3 rfl) ?_
        refine cl_cell (A := A) (x := x3) (rest := [.ref g0, .ref h0]) i h3 (by omega) hL31 hX hbl hbA ⟨hx, hb, hml, hown, hts⟩ hP hS (Nat.le_of_ble_eq_true rfl) (Nat.le_of_ble_eq_true rfl) hl.1 rfl (Nat.le_of_ble_eq_true rfl) dL_law_28 ⟨by show 8 + 4 * i ≤ 1200000; omega, by show 1584 + 1540 * i ≤ 5502250; omega⟩ (fun r1 H locs hP hS => ?_)
        refine cl_Si (As := [.ref h0, .ref g0, .int r1]) (rest := []) (wr := []) (metX0_call l D dT h0 ql qw qr lb w rb hm g0 gl gw gt a wr tn hh h hG r1) ⟨hx, hb, hml, hown, hts⟩ (va_cwS 3 hts (lw_S q90 q91 q0 q92) rfl rfl rfl (by decide +kernel) ⟨Nat.le_of_ble_eq_true rfl, Nat.le_of_ble_eq_true rfl⟩) hP hD hS hK hA [0, 1, 2, 3, 4, 5, 6, 7] [] rfl rfl rfl rfl (by decide) rfl hl.1 rfl (Nat.le_of_ble_eq_true rfl) dL_law_31 ⟨by show 8 + 4 * i + 4 ≤ 1200000; omega, by show 1584 + 1540 * i + 1540 ≤ 5502250; omega⟩ (fun r2 u H locs hw2 hP hD hS => ?_)
        have hP : va_P D vwCl [(h0, .inr (0, [.ref ql, .ref qw, .ref qr, .int u.2.2.2.1])), (ql, .inl (dT 0, 4, .inl u.1)), (qw, .inl (dT 1, 24, .inr (.inl u.2.1))), (qr, .inl (dT 0, 4, .inl u.2.2.1)), (g0, .inr (1, [.ref gl, .ref gw, .ref u.2.2.2.2.2.2.1, .int u.2.2.2.2.2.2.2.2])), (gl, .inl (dT 2, 4, .inl u.2.2.2.2.1)), (gw, .inl (dT 2, 4, .inl u.2.2.2.2.2.1)), (u.2.2.2.2.2.2.1, .inl (dT 3, 1536, .inl u.2.2.2.2.2.2.2.1))] H := hP
        have hD : va_D A [(h0, .inr (0, [.ref ql, .ref qw, .ref qr, .int u.2.2.2.1])), (ql, .inl (dT 0, 4, .inl u.1)), (qw, .inl (dT 1, 24, .inr (.inl u.2.1))), (qr, .inl (dT 0, 4, .inl u.2.2.1)), (g0, .inr (1, [.ref gl, .ref gw, .ref u.2.2.2.2.2.2.1, .int u.2.2.2.2.2.2.2.2])), (gl, .inl (dT 2, 4, .inl u.2.2.2.2.1)), (gw, .inl (dT 2, 4, .inl u.2.2.2.2.2.1)), (u.2.2.2.2.2.2.1, .inl (dT 3, 1536, .inl u.2.2.2.2.2.2.2.1))] := hD
        refine lv_if_ne (tgt := 39) hx hb dL_law_34 (by decide) (fun c34 => ?_) (fun c34 => ?_)
        · obtain ⟨x3b, ex3b⟩ : ∃ y : Int32, y = x3 + 1 := ⟨_, rfl⟩
          refine lv_iinc (v := x3b) (lv' := [(3, .int x3b), (0, .ref b), (1, .ref h0), (2, .ref g0)]) hx hb dL_law_39 hl (k := 3) rfl (by rw [ex3b]; rfl) (by decide) rfl (fun ls hl => ?_)
          refine lv_goto (tgt := 18) hx hb dL_law_42 (by decide) ?_
          refine W.cs (cells' := 8 + 4 * (i + 1)) (slots' := 1584 + 1540 * (i + 1)) (by omega) (by omega) ?_
          exact ih (i + 1) x3b u.1 u.2.1 u.2.2.1 u.2.2.2.1 u.2.2.2.2.1 u.2.2.2.2.2.1 u.2.2.2.2.2.2.1 u.2.2.2.2.2.2.2.1 u.2.2.2.2.2.2.2.2 _ _ _ (by omega) (by omega) (by rw [ex3b]; exact ad1 h3) hw2.2 hP hD hS (lv_sub hl [1, 2, 3, 0] rfl)
        · exact absurd c34 (by rw [hw2.1]; decide)
  exact outer 61 0 0 (fun _ => 0) (fun _ => 0) (fun _ => 0) 0 (fun _ => 0) (fun _ => 0) gt0 (fun _ => 0) 0 _ _ _ (by omega) (by omega) rfl ⟨0, good_init⟩ hP hD hS (lv_sub hl [3, 2, 1, 0] rfl)
set_option maxHeartbeats 4000000 in
theorem lw_walk (l : Launch) (hflags : l.flags = flags0) (b : Addr) (xs : List Int32) : MetFree l x (headSpec (Jvm.Cond.code x code maxLocals ret :: tables_1) room_1) (lw_P b xs) (fun _ _ _ _ _ => True) lw_Q := by
  refine MetFree.of_bodyS (code := code) (maxLocals := maxLocals) (ret := ret) (by decide) ?_ ?_
  · intro args s m h hn
    obtain ⟨meth, c, h1, h2, h3, h4, h5, h6, -, -⟩ := Cond.code_spec hn (atoms_spec (ws := Jvm.Cond.code x code maxLocals ret :: tables_1) h _ List.mem_cons_self)
    exact ⟨meth, c, h1, h2, h3, h4, h5, h6⟩
  · intro p e s m args below meth c s₁ B hml0 hP _
    obtain ⟨rfl, hx, hbd, hgv⟩ := hP
    obtain ⟨scr, harrAt, hlist, hof, hsmall⟩ := hx
    obtain ⟨hcb, hkn, -, -⟩ := State.arrayAt?_spec harrAt
    have hown : s.vm.findClass R_law = some m.cls := findClass_of_methodNamed B.named
    have hts0 : ∀ c ∈ (Jvm.Cond.code x code maxLocals ret :: tables_1), c.before #[Value.ref b] s = true := atoms_spec (ws := Jvm.Cond.code x code maxLocals ret :: tables_1) B.pre
    have hts : ∀ w ∈ lw_tbl, w.before #[Value.ref b] s = true := k2_hts_sels lw_privs (fun w hw => hts0 w (List.mem_cons_of_mem _ hw)) lw_privs_ok
    have hml : c.maxLocals = 4 := B.maxLocals_eq (hts0 _ List.mem_cons_self)
    have X₀ : Stand p l e room_1 s m #[Value.ref b] below meth c s₁ [] 0 0 := Stand.of_body B
    have hh0 : s₁.heap = s.heap := by rw [B.state]; rfl
    have hsz : scr.slots.size = xs.length := by rw [← Array.length_toList, hlist, List.length_map]
    have hval : ∀ j : Nat, j < xs.length → scr.slots[j]? = some (.int (xs.getD j 0)) := fun j hj => by
      rw [← Array.getElem?_toList, hlist]
      simp [hj]
    have hbl : b < s.heap.size := (Array.getElem?_eq_some_iff.mp hcb).1
    have hX : va_X b xs.length (fun j => xs.getD j 0) s s.heap := ⟨scr, hcb, hof, hkn, hsz, hval⟩
    have K : W p l e room_1 s m #[Value.ref b] below meth c s₁.heap [] 0 0 (lw_Z below #[Value.ref b] s) (entryFrame m ([Value.ref b] : List Value).toArray 4) := by
      rw [hh0]
      exact whole_start l hflags hbd ⟨B.exec, B.bytes, B.returns, hml, hown, hts, hX, hbl, B.notSynchronized, hgv⟩
    obtain ⟨t, a1, o, b1, b2, b3⟩ := K s₁ rfl X₀
    exact ⟨t, o, a1, b1, b2, b3⟩
theorem lw_pre_spec {args : Array Value} {s : State} (h : (Jvm.Cond.and given_1 narrow_1).before args s = true) (hr : rest_1_c.before args s = true) : ∃ (b : Addr) (xs : List Int32), lw_P b xs args s := by
  have hs := flat_of_before _ h
  have hq := flat_of_before _ hr
  have hc : (Cond.count 1).before args s = true := hs _ (by decide +kernel)
  have harr : (Cond.arrayOf (.arg 0) .int).before args s = true := hs _ (by decide +kernel)
  have hle : (Cond.le (.length (.arg 0)) (.int 60)).before args s = true := hs _ (by decide +kernel)
  have hlen : (Cond.isInt (.length (.arg 0))).before args s = true := hq _ (by decide +kernel)
  have hall : (Cond.all (.arg 0) (.isInt (.elem (.arg 0) (.index 0)))).before args s = true := hq _ (by decide +kernel)
  obtain ⟨b, xs, hb, hx⟩ := State.ints_of_pre rfl harr hlen hall
  have hsm : xs.length < 2 ^ 31 := hx.choose_spec.2.2.2
  have hev : (Term.length (.arg 0)).eval args s none [] s = some (.int xs.length.toInt32) := hx.length_eval hb
  have hv := Cond.le_ints hev (show (Term.int 60).eval args s none [] s = some (.int 60) from rfl)
  have hd : xs.length.toInt32 ≤ 60 := by
    simpa [Cond.before, Cond.holds, hv] using hle
  have hN : xs.length ≤ 60 := (Int32.ofNat_le_ofNat hsm (by decide)).mp (show Int32.ofNat xs.length ≤ Int32.ofNat 60 from hd)
  exact ⟨b, xs, Cond.one_arg hc (show args[0]? = some (.ref b) from hb), hx, hN, h⟩
theorem lw_comes (l : Launch) (hflags : l.flags = flags0) : Comes l x (Jvm.Cond.code x code maxLocals ret :: tables_1) room_1 (fun tb e args s => Calls_1 tb e args s ∧ rest_1 tb e args s ∧ Pre_1 tb e args s)
    (fun _ _ args s o t => lw_Q args s o t) := by
  intro p e ha hc hk s m args below hf hfit hheap happ hpre
  obtain ⟨b, xs, hP⟩ := lw_pre_spec hpre.2.2 hpre.2.1
  obtain ⟨k, o, h1, h2, h3, hQ⟩ := lw_walk l hflags b xs p e ha hc hk s m args below hf ((Spec.applies_iff_loose hf).mp happ).1 hP trivial
  exact ⟨k, o, h1, h2, h3, hQ⟩
theorem lw_frame {s t : State} {o : Outcome} {args : Array Value} (h : Framed s o t [] 1200000 5502250) :
    Framed s o t (fieldLocs frame_1_writes args s ++ arrayLocs frame_1_arrays args s ++ staticLocs frame_1_statics s) 1200000 5502250 := h
theorem lw_limb (L : Cond) (hL : ∀ (args : Array Value) (s t : State), L.after args s (.returned (some (.int 1))) t = true) :
    ArmFor flags0 classFile x code maxLocals ret World_1 tables_1 room_1 Calls_1 rest_1 Pre_1
      (fun tb e a s o t => postC L tb e a s o t ∧ Framed s o t (fieldLocs frame_1_writes a s ++ arrayLocs frame_1_arrays a s ++ staticLocs frame_1_statics s) 1200000 5502250) := by
  intro l hflags _ _ p e ha hc hk s m args below hf hfit hheap happ hpre
  obtain ⟨k, o, h1, h2, h3, rfl, hF⟩ := lw_comes l hflags p e ha hc hk s m args below hf hfit hheap happ hpre
  exact ⟨k, _, h1, h2, h3, hL args s _, lw_frame hF⟩
theorem i_vc : Claimed_1_1 ∧ Claimed_1_2 := ⟨lw_limb limb_1_1 (fun args s t => by simp [limb_1_1, Cond.after, Cond.holds, Cond.value]), lw_limb limb_1_2 (fun args s t => Cond.after_iff.mpr (by
  first | (rw [show limb_1_2 = Cond.eq .result (.int 1) from rfl, Cond.eq_ints (x := 1) (y := 1) rfl rfl]; simp; done) | (simp [limb_1_2, Cond.value, Term.eval]; done)))⟩
end
