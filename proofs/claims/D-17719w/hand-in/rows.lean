section
-- ===== PART A: goes FIRST, ahead of the names: the tables' words, and 'selects' of the private methods out of them =====
/-- a private method of a class that the tables say can be made, by its rows of tables_1 -/
def lw_okq (q : MethodName × Nat) : Prop := (q.1.cls ≠ "java/lang/invoke/MethodHandle" ∧ q.1.cls ≠ "java/lang/invoke/VarHandle") ∧ Cond.instantiable q.1.cls q.2 ∈ tables_1 ∧ Cond.privateMethod q.1 ∈ tables_1 ∧ Cond.instanceMethod q.1 ∈ tables_1
set_option maxRecDepth 100000
theorem lw_t1 {w : Cond} (h : w ∈ tables_1_1) : w ∈ tables_1 := List.mem_append_left _ h
theorem lw_t2 {w : Cond} (h : w ∈ tables_1_2) : w ∈ tables_1 := List.mem_append_right _ h
theorem lw_p0 : lw_okq (⟨"java/lang/NullPointerException", "getExtendedNPEMessage", "()Ljava/lang/String;"⟩, 8) := ⟨⟨by decide +kernel, by decide +kernel⟩, lw_t1 (List.mem_of_getElem? (i := 91) rfl), lw_t1 (List.mem_of_getElem? (i := 89) rfl), lw_t1 (List.mem_of_getElem? (i := 90) rfl)⟩
theorem lw_p1 : lw_okq (⟨"java/lang/Throwable", "fillInStackTrace", "(I)Ljava/lang/Throwable;"⟩, 6) := ⟨⟨by decide +kernel, by decide +kernel⟩, lw_t1 (List.mem_of_getElem? (i := 103) rfl), lw_t1 (List.mem_of_getElem? (i := 101) rfl), lw_t1 (List.mem_of_getElem? (i := 102) rfl)⟩
theorem lw_p2 : lw_okq (⟨"DaryArrayHeapDeskModel", "first", "(I)I"⟩, 3) := ⟨⟨by decide +kernel, by decide +kernel⟩, lw_t2 (List.mem_of_getElem? (i := 160) rfl), lw_t2 (List.mem_of_getElem? (i := 195) rfl), lw_t2 (List.mem_of_getElem? (i := 196) rfl)⟩
def lw_privs_1 : List (MethodName × Nat) := [(⟨"java/lang/NullPointerException", "getExtendedNPEMessage", "()Ljava/lang/String;"⟩, 8), (⟨"java/lang/Throwable", "fillInStackTrace", "(I)Ljava/lang/Throwable;"⟩, 6), (⟨"DaryArrayHeapDeskModel", "first", "(I)I"⟩, 3)]
theorem lw_r1 : ∀ q ∈ lw_privs_1, lw_okq q := List.forall_mem_cons.mpr ⟨lw_p0, List.forall_mem_cons.mpr ⟨lw_p1, List.forall_mem_cons.mpr ⟨lw_p2, fun _ h => absurd h List.not_mem_nil⟩⟩⟩
def lw_privs : List (MethodName × Nat) := lw_privs_1
def lw_tbl : List Cond := k2_sels lw_privs ++ tables_1
theorem lw_privs_ok : ∀ q ∈ lw_privs, lw_okq q := lw_r1
-- ===== ONE list of words for every method: the tables' words that hold all through a run =====
def lw_all : List Cond := lw_tbl.filter goodWord
/-- a word of the tables by its place: claim/WORDS.tsv -/
theorem lw_w {w : Cond} (i : Nat) (h : lw_tbl[i]? = some w) (g : goodWord w = true) : w ∈ lw_all := List.mem_filter.mpr ⟨List.mem_of_getElem? h, g⟩
theorem lw_all_tbl {w : Cond} (h : w ∈ lw_all) : w ∈ lw_tbl := (List.mem_filter.mp h).1
theorem lw_self : GoodIn lw_all lw_all := fun w h => ⟨h, good_of_word (List.mem_filter.mp h).2⟩
/-- a class's field words, by their places -/
theorem lw_in (ws : List Cond) (ps : List Nat) (hp : ws = ps.filterMap (fun i => lw_tbl[i]?)) (hg : ws.all goodWord = true) : ∀ w ∈ ws, w ∈ lw_all := by
  intro w h
  have h1 := List.all_eq_true.mp hg w h
  rw [hp] at h
  obtain ⟨i, -, hi⟩ := List.mem_filterMap.mp h
  exact lw_w i hi h1
/-- the words of a contract for the method y with code b, L locals, answer r -/
abbrev ws_ (y : MethodName) (b : ByteArray) (L : Nat) (r : Option FieldType) : List Cond := Cond.code y b L r :: lw_all
theorem lw_meth {y : MethodName} {b : ByteArray} {L : Nat} {r : Option FieldType} (h : Cond.code y b L r ∈ lw_all) : GoodIn lw_all (ws_ y b L r) := by
  intro w hw
  rcases List.mem_cons.mp hw with e | e
  · rw [e]
    exact lw_self _ h
  · exact lw_self _ e
theorem lw_app {a c : List Cond} (ha : ∀ w ∈ a, w ∈ lw_all) (hc : GoodIn lw_all c) : GoodIn lw_all (a ++ c) := by
  intro w hw
  rcases List.mem_append.mp hw with e | e
  · exact lw_self w (ha w e)
  · exact hc w e
/-- what a call through an object asks: cwV n hts (lw_V ..) -/
theorem lw_V {own : String} {idx : Nat} {C : String} {y : MethodName} {b : ByteArray} {L : Nat} {r : Option FieldType} (h1 : Cond.methodLink own idx y ∈ lw_all) (h2 : Cond.instanceMethod y ∈ lw_all) (h3 : Cond.selects C y y ∈ lw_all) (h4 : Cond.initialized C ∈ lw_all) (h5 : Cond.code y b L r ∈ lw_all) : GoodIn lw_all (wsV own idx C y (ws_ y b L r)) := by
  refine lw_app ?_ (lw_meth h5)
  intro w hw
  simp only [List.mem_cons, List.not_mem_nil, or_false] at hw
  rcases hw with e | e | e | e
  · rw [e]; exact h1
  · rw [e]; exact h2
  · rw [e]; exact h3
  · rw [e]; exact h4
/-- what a static call asks: va_cwS n hts (lw_S ..) -/
theorem lw_S {own : String} {idx : Nat} {y : MethodName} {b : ByteArray} {L : Nat} {r : Option FieldType} (h1 : Cond.methodLink own idx y ∈ lw_all) (h2 : Cond.static y ∈ lw_all) (h3 : Cond.initialized y.cls ∈ lw_all) (h4 : Cond.code y b L r ∈ lw_all) : GoodIn lw_all (va_wsS own idx y (ws_ y b L r)) := by
  refine lw_app ?_ (lw_meth h4)
  intro w hw
  simp only [List.mem_cons, List.not_mem_nil, or_false] at hw
  rcases hw with e | e | e
  · rw [e]; exact h1
  · rw [e]; exact h2
  · rw [e]; exact h3
/-- the words of a contract for a method WITH HANDLERS (hh: its table) -/
abbrev wsW_ (y : MethodName) (b : ByteArray) (L : Nat) (r : Option FieldType) (hh : List (Nat × Nat × Nat × Nat)) : List Cond := Cond.codeWith y b L r hh :: lw_all
theorem lw_methW {y : MethodName} {b : ByteArray} {L : Nat} {r : Option FieldType} {hh : List (Nat × Nat × Nat × Nat)} (h : Cond.codeWith y b L r hh ∈ lw_all) : GoodIn lw_all (wsW_ y b L r hh) := by
  intro w hw
  rcases List.mem_cons.mp hw with e | e
  · rw [e]
    exact lw_self _ h
  · exact lw_self _ e
/-- any list of words by their places (lw_in), good -/
theorem lw_good {ws : List Cond} (h : ∀ w ∈ ws, w ∈ lw_all) : GoodIn lw_all ws := fun w hw => lw_self w (h w hw)
/-- what a call of a method with handlers asks: vx_cwVW n hts (lw_VW ..), vx_cwSW n hts (lw_SW ..) -/
theorem lw_VW {own : String} {idx : Nat} {C : String} {y : MethodName} {b : ByteArray} {L : Nat} {r : Option FieldType} {hh : List (Nat × Nat × Nat × Nat)} (h1 : Cond.methodLink own idx y ∈ lw_all) (h2 : Cond.instanceMethod y ∈ lw_all) (h3 : Cond.selects C y y ∈ lw_all) (h4 : Cond.initialized C ∈ lw_all) (h5 : Cond.codeWith y b L r hh ∈ lw_all) : GoodIn lw_all (wsV own idx C y (wsW_ y b L r hh)) := by
  refine lw_app ?_ (lw_methW h5)
  intro w hw
  simp only [List.mem_cons, List.not_mem_nil, or_false] at hw
  rcases hw with e | e | e | e
  · rw [e]; exact h1
  · rw [e]; exact h2
  · rw [e]; exact h3
  · rw [e]; exact h4
theorem lw_SW {own : String} {idx : Nat} {y : MethodName} {b : ByteArray} {L : Nat} {r : Option FieldType} {hh : List (Nat × Nat × Nat × Nat)} (h1 : Cond.methodLink own idx y ∈ lw_all) (h2 : Cond.static y ∈ lw_all) (h3 : Cond.initialized y.cls ∈ lw_all) (h4 : Cond.codeWith y b L r hh ∈ lw_all) : GoodIn lw_all (va_wsS own idx y (wsW_ y b L r hh)) := by
  refine lw_app ?_ (lw_methW h4)
  intro w hw
  simp only [List.mem_cons, List.not_mem_nil, or_false] at hw
  rcases hw with e | e | e
  · rw [e]; exact h1
  · rw [e]; exact h2
  · rw [e]; exact h3
/-- a word by its place in its run of the tables -/
theorem lw_at {r : List Cond} (hr : ∀ w ∈ r, w ∈ lw_tbl) {w : Cond} (i : Nat) (h : r[i]? = some w) : w ∈ lw_tbl := hr w (List.mem_of_getElem? h)
theorem lw_g {w : Cond} (h : w ∈ lw_tbl) (g : goodWord w = true) : w ∈ lw_all := List.mem_filter.mpr ⟨h, g⟩
theorem lw_ms : ∀ w ∈ k2_sels lw_privs, w ∈ lw_tbl := fun w h => show w ∈ k2_sels lw_privs ++ tables_1 from List.mem_append_left _ h
theorem lw_m1 : ∀ w ∈ tables_1_1, w ∈ lw_tbl := fun w h => show w ∈ k2_sels lw_privs ++ tables_1 from List.mem_append_right (k2_sels lw_privs) (show w ∈ tables_1 from List.mem_append_left _ h)
theorem lw_m2 : ∀ w ∈ tables_1_2, w ∈ lw_tbl := fun w h => show w ∈ k2_sels lw_privs ++ tables_1 from List.mem_append_right (k2_sels lw_privs) (show w ∈ tables_1 from List.mem_append_right _ h)
theorem qs0 : (Cond.selects "java/lang/NullPointerException" ⟨"java/lang/NullPointerException", "getExtendedNPEMessage", "()Ljava/lang/String;"⟩ ⟨"java/lang/NullPointerException", "getExtendedNPEMessage", "()Ljava/lang/String;"⟩) ∈ lw_all := lw_g (lw_at lw_ms 0 rfl) rfl
theorem qs1 : (Cond.selects "java/lang/Throwable" ⟨"java/lang/Throwable", "fillInStackTrace", "(I)Ljava/lang/Throwable;"⟩ ⟨"java/lang/Throwable", "fillInStackTrace", "(I)Ljava/lang/Throwable;"⟩) ∈ lw_all := lw_g (lw_at lw_ms 1 rfl) rfl
theorem qs2 : (Cond.selects "DaryArrayHeapDeskModel" ⟨"DaryArrayHeapDeskModel", "first", "(I)I"⟩ ⟨"DaryArrayHeapDeskModel", "first", "(I)I"⟩) ∈ lw_all := lw_g (lw_at lw_ms 2 rfl) rfl
end
section
/-! DECODE ROWS BY BYTES: one lemma an opcode; a method's code is cut into short pieces once, and a row reads its own piece alone. -/
set_option maxRecDepth 100000
/-- the code has just these bytes from pc on -/
def DkAt (code : ByteArray) (pc : Nat) (bs : List UInt8) : Prop := ∀ (j : Nat) (b : UInt8), bs[j]? = some b → code.data.toList[pc + j]? = some b
/-- the piece W has the bytes bs from its place j on -/
def dkIn (W : List UInt8) (j : Nat) (bs : List UInt8) : Bool := decide ((W.drop j).take bs.length = bs)
theorem dk_seg {l W T : List UInt8} {o o2 : Nat} (h : l.drop o = W ++ T) (n : Nat) (hn : W.length = n) (ho : o + n = o2) : l.drop o2 = T := by
  subst ho
  rw [← List.drop_drop, h, List.drop_left' hn]
theorem dk_at {code : ByteArray} {W T bs : List UInt8} {o pc : Nat} (h : code.data.toList.drop o = W ++ T) (j : Nat) (hp : o + j = pc) (hw : dkIn W j bs = true) : DkAt code pc bs := by
  subst hp
  intro i b e
  have h1 := of_decide_eq_true hw
  have h2 : i < bs.length := (List.getElem?_eq_some_iff.mp e).1
  have h3 : W[j + i]? = some b := by
    rw [← h1, List.getElem?_take, if_pos h2, List.getElem?_drop] at e
    exact e
  have h4 : j + i < W.length := (List.getElem?_eq_some_iff.mp h3).1
  have h5 : (code.data.toList.drop o)[j + i]? = some b := by
    rw [h, List.getElem?_append_left h4]
    exact h3
  rw [List.getElem?_drop, ← Nat.add_assoc] at h5
  exact h5
theorem dk_u1 {A : ByteArray} {p : Nat} {b : UInt8} (h : A.data.toList[p]? = some b) : (Reader.u1 : Reader DecodeError Nat) A p = .ok (b.toNat, p + 1) := by
  obtain ⟨h1, h2⟩ := List.getElem?_eq_some_iff.mp h
  have h3 : p < A.size := by simpa using h1
  have h4 : A[p]'h3 = b := h2
  have e : (Reader.u1 : Reader DecodeError Nat) A p = (if h : p < A.size then .ok (A[p].toNat, p + 1) else .error (HasTruncated.truncated p)) := by
    show (do if h : p < A.size then do set (p + 1); Pure.pure A[p].toNat else MonadExcept.throw (HasTruncated.truncated p) : Reader DecodeError Nat) A p = _
    by_cases hi : p < A.size
    · rw [dif_pos hi, dif_pos hi]; rfl
    · rw [dif_neg hi, dif_neg hi]; rfl
  rw [e, dif_pos h3, h4]
theorem dk_bind {α β : Type} {r : Reader DecodeError α} {f : α → Reader DecodeError β} {A : ByteArray} {p s : Nat} {a : α} (h : r A p = .ok (a, s)) : (r >>= f) A p = f a A s := by
  show (do let (a, s) ← r A p; f a A s : Except DecodeError (β × Nat)) = _
  rw [h]
  rfl
theorem dk_map {α β : Type} {r : Reader DecodeError α} {g : α → β} {A : ByteArray} {p s : Nat} {a : α} (h : r A p = .ok (a, s)) : (g <$> r) A p = .ok (g a, s) := by
  show (do let (a, s) ← r A p; .ok (g a, s) : Except DecodeError (β × Nat)) = _
  rw [h]
  rfl
theorem dk_u2 {A : ByteArray} {p : Nat} {a b : UInt8} (h : A.data.toList[p]? = some a) (h2 : A.data.toList[p + 1]? = some b) : (Reader.u2 : Reader DecodeError Nat) A p = .ok (a.toNat * 256 + b.toNat, p + 2) := by
  show (Reader.u1 >>= fun hi => Reader.u1 >>= fun lo => Pure.pure (hi * 256 + lo) : Reader DecodeError Nat) A p = _
  rw [dk_bind (dk_u1 h), dk_bind (dk_u1 h2)]
  rfl
theorem dk_of {code : ByteArray} {pc n : Nat} {i : Instr} (h : Decoder.instr pc code pc = .ok (i, pc + n)) : decode code pc = .ok (i, n) := by
  have e : decode code pc = (match Decoder.instr pc code pc with | .error x => .error x | .ok (j, s) => .ok (j, s - pc)) := by
    show (do let (j, s) ← Decoder.instr pc code pc; Pure.pure (j, s - pc) : Except DecodeError (Instr × Nat)) = _
    cases Decoder.instr pc code pc <;> rfl
  rw [e, h]
  show Except.ok (i, pc + n - pc) = _
  rw [Nat.add_sub_cancel_left]
theorem dk_1 {code : ByteArray} {pc : Nat} (h : DkAt code pc [1]) : decode code pc = .ok (.aconst_null, 1) := dk_of ((dk_bind (dk_u1 (h 0 _ rfl))).trans rfl)
theorem dk_2 {code : ByteArray} {pc : Nat} (h : DkAt code pc [2]) : decode code pc = .ok (.iconst (-1), 1) := dk_of ((dk_bind (dk_u1 (h 0 _ rfl))).trans rfl)
theorem dk_3 {code : ByteArray} {pc : Nat} (h : DkAt code pc [3]) : decode code pc = .ok (.iconst 0, 1) := dk_of ((dk_bind (dk_u1 (h 0 _ rfl))).trans rfl)
theorem dk_4 {code : ByteArray} {pc : Nat} (h : DkAt code pc [4]) : decode code pc = .ok (.iconst 1, 1) := dk_of ((dk_bind (dk_u1 (h 0 _ rfl))).trans rfl)
theorem dk_5 {code : ByteArray} {pc : Nat} (h : DkAt code pc [5]) : decode code pc = .ok (.iconst 2, 1) := dk_of ((dk_bind (dk_u1 (h 0 _ rfl))).trans rfl)
theorem dk_6 {code : ByteArray} {pc : Nat} (h : DkAt code pc [6]) : decode code pc = .ok (.iconst 3, 1) := dk_of ((dk_bind (dk_u1 (h 0 _ rfl))).trans rfl)
theorem dk_7 {code : ByteArray} {pc : Nat} (h : DkAt code pc [7]) : decode code pc = .ok (.iconst 4, 1) := dk_of ((dk_bind (dk_u1 (h 0 _ rfl))).trans rfl)
theorem dk_8 {code : ByteArray} {pc : Nat} (h : DkAt code pc [8]) : decode code pc = .ok (.iconst 5, 1) := dk_of ((dk_bind (dk_u1 (h 0 _ rfl))).trans rfl)
theorem dk_16 {code : ByteArray} {pc : Nat} (a : UInt8) (h : DkAt code pc [16, a]) : decode code pc = .ok (.bipush (Reader.signed 8 a.toNat), 2) := dk_of ((dk_bind (dk_u1 (h 0 _ rfl))).trans ((dk_bind (dk_map (dk_u1 (h 1 _ rfl)))).trans rfl))
theorem dk_17 {code : ByteArray} {pc : Nat} (a b : UInt8) (h : DkAt code pc [17, a, b]) : decode code pc = .ok (.sipush (Reader.signed 16 (a.toNat * 256 + b.toNat)), 3) := dk_of ((dk_bind (dk_u1 (h 0 _ rfl))).trans ((dk_bind (dk_map (dk_u2 (h 1 _ rfl) (h 2 _ rfl)))).trans rfl))
theorem dk_18 {code : ByteArray} {pc : Nat} (a : UInt8) (h : DkAt code pc [18, a]) : decode code pc = .ok (.ldc a.toNat, 2) := dk_of ((dk_bind (dk_u1 (h 0 _ rfl))).trans ((dk_bind (dk_u1 (h 1 _ rfl))).trans rfl))
theorem dk_21 {code : ByteArray} {pc : Nat} (a : UInt8) (h : DkAt code pc [21, a]) : decode code pc = .ok (.iload a.toNat, 2) := dk_of ((dk_bind (dk_u1 (h 0 _ rfl))).trans ((dk_bind (dk_u1 (h 1 _ rfl))).trans rfl))
theorem dk_25 {code : ByteArray} {pc : Nat} (a : UInt8) (h : DkAt code pc [25, a]) : decode code pc = .ok (.aload a.toNat, 2) := dk_of ((dk_bind (dk_u1 (h 0 _ rfl))).trans ((dk_bind (dk_u1 (h 1 _ rfl))).trans rfl))
theorem dk_26 {code : ByteArray} {pc : Nat} (h : DkAt code pc [26]) : decode code pc = .ok (.iload_n 0, 1) := dk_of ((dk_bind (dk_u1 (h 0 _ rfl))).trans rfl)
theorem dk_27 {code : ByteArray} {pc : Nat} (h : DkAt code pc [27]) : decode code pc = .ok (.iload_n 1, 1) := dk_of ((dk_bind (dk_u1 (h 0 _ rfl))).trans rfl)
theorem dk_28 {code : ByteArray} {pc : Nat} (h : DkAt code pc [28]) : decode code pc = .ok (.iload_n 2, 1) := dk_of ((dk_bind (dk_u1 (h 0 _ rfl))).trans rfl)
theorem dk_29 {code : ByteArray} {pc : Nat} (h : DkAt code pc [29]) : decode code pc = .ok (.iload_n 3, 1) := dk_of ((dk_bind (dk_u1 (h 0 _ rfl))).trans rfl)
theorem dk_42 {code : ByteArray} {pc : Nat} (h : DkAt code pc [42]) : decode code pc = .ok (.aload_n 0, 1) := dk_of ((dk_bind (dk_u1 (h 0 _ rfl))).trans rfl)
theorem dk_43 {code : ByteArray} {pc : Nat} (h : DkAt code pc [43]) : decode code pc = .ok (.aload_n 1, 1) := dk_of ((dk_bind (dk_u1 (h 0 _ rfl))).trans rfl)
theorem dk_44 {code : ByteArray} {pc : Nat} (h : DkAt code pc [44]) : decode code pc = .ok (.aload_n 2, 1) := dk_of ((dk_bind (dk_u1 (h 0 _ rfl))).trans rfl)
theorem dk_45 {code : ByteArray} {pc : Nat} (h : DkAt code pc [45]) : decode code pc = .ok (.aload_n 3, 1) := dk_of ((dk_bind (dk_u1 (h 0 _ rfl))).trans rfl)
theorem dk_46 {code : ByteArray} {pc : Nat} (h : DkAt code pc [46]) : decode code pc = .ok (.iaload, 1) := dk_of ((dk_bind (dk_u1 (h 0 _ rfl))).trans rfl)
theorem dk_50 {code : ByteArray} {pc : Nat} (h : DkAt code pc [50]) : decode code pc = .ok (.aaload, 1) := dk_of ((dk_bind (dk_u1 (h 0 _ rfl))).trans rfl)
theorem dk_54 {code : ByteArray} {pc : Nat} (a : UInt8) (h : DkAt code pc [54, a]) : decode code pc = .ok (.istore a.toNat, 2) := dk_of ((dk_bind (dk_u1 (h 0 _ rfl))).trans ((dk_bind (dk_u1 (h 1 _ rfl))).trans rfl))
theorem dk_58 {code : ByteArray} {pc : Nat} (a : UInt8) (h : DkAt code pc [58, a]) : decode code pc = .ok (.astore a.toNat, 2) := dk_of ((dk_bind (dk_u1 (h 0 _ rfl))).trans ((dk_bind (dk_u1 (h 1 _ rfl))).trans rfl))
theorem dk_60 {code : ByteArray} {pc : Nat} (h : DkAt code pc [60]) : decode code pc = .ok (.istore_n 1, 1) := dk_of ((dk_bind (dk_u1 (h 0 _ rfl))).trans rfl)
theorem dk_61 {code : ByteArray} {pc : Nat} (h : DkAt code pc [61]) : decode code pc = .ok (.istore_n 2, 1) := dk_of ((dk_bind (dk_u1 (h 0 _ rfl))).trans rfl)
theorem dk_62 {code : ByteArray} {pc : Nat} (h : DkAt code pc [62]) : decode code pc = .ok (.istore_n 3, 1) := dk_of ((dk_bind (dk_u1 (h 0 _ rfl))).trans rfl)
theorem dk_75 {code : ByteArray} {pc : Nat} (h : DkAt code pc [75]) : decode code pc = .ok (.astore_n 0, 1) := dk_of ((dk_bind (dk_u1 (h 0 _ rfl))).trans rfl)
theorem dk_76 {code : ByteArray} {pc : Nat} (h : DkAt code pc [76]) : decode code pc = .ok (.astore_n 1, 1) := dk_of ((dk_bind (dk_u1 (h 0 _ rfl))).trans rfl)
theorem dk_77 {code : ByteArray} {pc : Nat} (h : DkAt code pc [77]) : decode code pc = .ok (.astore_n 2, 1) := dk_of ((dk_bind (dk_u1 (h 0 _ rfl))).trans rfl)
theorem dk_78 {code : ByteArray} {pc : Nat} (h : DkAt code pc [78]) : decode code pc = .ok (.astore_n 3, 1) := dk_of ((dk_bind (dk_u1 (h 0 _ rfl))).trans rfl)
theorem dk_79 {code : ByteArray} {pc : Nat} (h : DkAt code pc [79]) : decode code pc = .ok (.iastore, 1) := dk_of ((dk_bind (dk_u1 (h 0 _ rfl))).trans rfl)
theorem dk_83 {code : ByteArray} {pc : Nat} (h : DkAt code pc [83]) : decode code pc = .ok (.aastore, 1) := dk_of ((dk_bind (dk_u1 (h 0 _ rfl))).trans rfl)
theorem dk_87 {code : ByteArray} {pc : Nat} (h : DkAt code pc [87]) : decode code pc = .ok (.pop, 1) := dk_of ((dk_bind (dk_u1 (h 0 _ rfl))).trans rfl)
theorem dk_89 {code : ByteArray} {pc : Nat} (h : DkAt code pc [89]) : decode code pc = .ok (.dup, 1) := dk_of ((dk_bind (dk_u1 (h 0 _ rfl))).trans rfl)
theorem dk_90 {code : ByteArray} {pc : Nat} (h : DkAt code pc [90]) : decode code pc = .ok (.dup_x1, 1) := dk_of ((dk_bind (dk_u1 (h 0 _ rfl))).trans rfl)
theorem dk_96 {code : ByteArray} {pc : Nat} (h : DkAt code pc [96]) : decode code pc = .ok (.iadd, 1) := dk_of ((dk_bind (dk_u1 (h 0 _ rfl))).trans rfl)
theorem dk_100 {code : ByteArray} {pc : Nat} (h : DkAt code pc [100]) : decode code pc = .ok (.isub, 1) := dk_of ((dk_bind (dk_u1 (h 0 _ rfl))).trans rfl)
theorem dk_104 {code : ByteArray} {pc : Nat} (h : DkAt code pc [104]) : decode code pc = .ok (.imul, 1) := dk_of ((dk_bind (dk_u1 (h 0 _ rfl))).trans rfl)
theorem dk_108 {code : ByteArray} {pc : Nat} (h : DkAt code pc [108]) : decode code pc = .ok (.idiv, 1) := dk_of ((dk_bind (dk_u1 (h 0 _ rfl))).trans rfl)
theorem dk_126 {code : ByteArray} {pc : Nat} (h : DkAt code pc [126]) : decode code pc = .ok (.iand, 1) := dk_of ((dk_bind (dk_u1 (h 0 _ rfl))).trans rfl)
theorem dk_132 {code : ByteArray} {pc : Nat} (a b : UInt8) (h : DkAt code pc [132, a, b]) : decode code pc = .ok (.iinc a.toNat (Reader.signed 8 b.toNat), 3) := dk_of ((dk_bind (dk_u1 (h 0 _ rfl))).trans ((dk_bind (dk_u1 (h 1 _ rfl))).trans ((dk_bind (dk_map (dk_u1 (h 2 _ rfl)))).trans rfl)))
theorem dk_133 {code : ByteArray} {pc : Nat} (h : DkAt code pc [133]) : decode code pc = .ok (.i2l, 1) := dk_of ((dk_bind (dk_u1 (h 0 _ rfl))).trans rfl)
theorem dk_136 {code : ByteArray} {pc : Nat} (h : DkAt code pc [136]) : decode code pc = .ok (.l2i, 1) := dk_of ((dk_bind (dk_u1 (h 0 _ rfl))).trans rfl)
theorem dk_153 {code : ByteArray} {pc : Nat} (a b : UInt8) (h : DkAt code pc [153, a, b]) : decode code pc = .ok (.ifCond .eq (Reader.signed 16 (a.toNat * 256 + b.toNat)), 3) := dk_of ((dk_bind (dk_u1 (h 0 _ rfl))).trans ((dk_bind (dk_map (dk_u2 (h 1 _ rfl) (h 2 _ rfl)))).trans rfl))
theorem dk_154 {code : ByteArray} {pc : Nat} (a b : UInt8) (h : DkAt code pc [154, a, b]) : decode code pc = .ok (.ifCond .ne (Reader.signed 16 (a.toNat * 256 + b.toNat)), 3) := dk_of ((dk_bind (dk_u1 (h 0 _ rfl))).trans ((dk_bind (dk_map (dk_u2 (h 1 _ rfl) (h 2 _ rfl)))).trans rfl))
theorem dk_155 {code : ByteArray} {pc : Nat} (a b : UInt8) (h : DkAt code pc [155, a, b]) : decode code pc = .ok (.ifCond .lt (Reader.signed 16 (a.toNat * 256 + b.toNat)), 3) := dk_of ((dk_bind (dk_u1 (h 0 _ rfl))).trans ((dk_bind (dk_map (dk_u2 (h 1 _ rfl) (h 2 _ rfl)))).trans rfl))
theorem dk_156 {code : ByteArray} {pc : Nat} (a b : UInt8) (h : DkAt code pc [156, a, b]) : decode code pc = .ok (.ifCond .ge (Reader.signed 16 (a.toNat * 256 + b.toNat)), 3) := dk_of ((dk_bind (dk_u1 (h 0 _ rfl))).trans ((dk_bind (dk_map (dk_u2 (h 1 _ rfl) (h 2 _ rfl)))).trans rfl))
theorem dk_157 {code : ByteArray} {pc : Nat} (a b : UInt8) (h : DkAt code pc [157, a, b]) : decode code pc = .ok (.ifCond .gt (Reader.signed 16 (a.toNat * 256 + b.toNat)), 3) := dk_of ((dk_bind (dk_u1 (h 0 _ rfl))).trans ((dk_bind (dk_map (dk_u2 (h 1 _ rfl) (h 2 _ rfl)))).trans rfl))
theorem dk_158 {code : ByteArray} {pc : Nat} (a b : UInt8) (h : DkAt code pc [158, a, b]) : decode code pc = .ok (.ifCond .le (Reader.signed 16 (a.toNat * 256 + b.toNat)), 3) := dk_of ((dk_bind (dk_u1 (h 0 _ rfl))).trans ((dk_bind (dk_map (dk_u2 (h 1 _ rfl) (h 2 _ rfl)))).trans rfl))
theorem dk_159 {code : ByteArray} {pc : Nat} (a b : UInt8) (h : DkAt code pc [159, a, b]) : decode code pc = .ok (.if_icmp .eq (Reader.signed 16 (a.toNat * 256 + b.toNat)), 3) := dk_of ((dk_bind (dk_u1 (h 0 _ rfl))).trans ((dk_bind (dk_map (dk_u2 (h 1 _ rfl) (h 2 _ rfl)))).trans rfl))
theorem dk_160 {code : ByteArray} {pc : Nat} (a b : UInt8) (h : DkAt code pc [160, a, b]) : decode code pc = .ok (.if_icmp .ne (Reader.signed 16 (a.toNat * 256 + b.toNat)), 3) := dk_of ((dk_bind (dk_u1 (h 0 _ rfl))).trans ((dk_bind (dk_map (dk_u2 (h 1 _ rfl) (h 2 _ rfl)))).trans rfl))
theorem dk_161 {code : ByteArray} {pc : Nat} (a b : UInt8) (h : DkAt code pc [161, a, b]) : decode code pc = .ok (.if_icmp .lt (Reader.signed 16 (a.toNat * 256 + b.toNat)), 3) := dk_of ((dk_bind (dk_u1 (h 0 _ rfl))).trans ((dk_bind (dk_map (dk_u2 (h 1 _ rfl) (h 2 _ rfl)))).trans rfl))
theorem dk_162 {code : ByteArray} {pc : Nat} (a b : UInt8) (h : DkAt code pc [162, a, b]) : decode code pc = .ok (.if_icmp .ge (Reader.signed 16 (a.toNat * 256 + b.toNat)), 3) := dk_of ((dk_bind (dk_u1 (h 0 _ rfl))).trans ((dk_bind (dk_map (dk_u2 (h 1 _ rfl) (h 2 _ rfl)))).trans rfl))
theorem dk_163 {code : ByteArray} {pc : Nat} (a b : UInt8) (h : DkAt code pc [163, a, b]) : decode code pc = .ok (.if_icmp .gt (Reader.signed 16 (a.toNat * 256 + b.toNat)), 3) := dk_of ((dk_bind (dk_u1 (h 0 _ rfl))).trans ((dk_bind (dk_map (dk_u2 (h 1 _ rfl) (h 2 _ rfl)))).trans rfl))
theorem dk_164 {code : ByteArray} {pc : Nat} (a b : UInt8) (h : DkAt code pc [164, a, b]) : decode code pc = .ok (.if_icmp .le (Reader.signed 16 (a.toNat * 256 + b.toNat)), 3) := dk_of ((dk_bind (dk_u1 (h 0 _ rfl))).trans ((dk_bind (dk_map (dk_u2 (h 1 _ rfl) (h 2 _ rfl)))).trans rfl))
theorem dk_167 {code : ByteArray} {pc : Nat} (a b : UInt8) (h : DkAt code pc [167, a, b]) : decode code pc = .ok (.goto (Reader.signed 16 (a.toNat * 256 + b.toNat)), 3) := dk_of ((dk_bind (dk_u1 (h 0 _ rfl))).trans ((dk_bind (dk_map (dk_u2 (h 1 _ rfl) (h 2 _ rfl)))).trans rfl))
theorem dk_172 {code : ByteArray} {pc : Nat} (h : DkAt code pc [172]) : decode code pc = .ok (.ireturn, 1) := dk_of ((dk_bind (dk_u1 (h 0 _ rfl))).trans rfl)
theorem dk_173 {code : ByteArray} {pc : Nat} (h : DkAt code pc [173]) : decode code pc = .ok (.lreturn, 1) := dk_of ((dk_bind (dk_u1 (h 0 _ rfl))).trans rfl)
theorem dk_176 {code : ByteArray} {pc : Nat} (h : DkAt code pc [176]) : decode code pc = .ok (.areturn, 1) := dk_of ((dk_bind (dk_u1 (h 0 _ rfl))).trans rfl)
theorem dk_177 {code : ByteArray} {pc : Nat} (h : DkAt code pc [177]) : decode code pc = .ok (.return_, 1) := dk_of ((dk_bind (dk_u1 (h 0 _ rfl))).trans rfl)
theorem dk_178 {code : ByteArray} {pc : Nat} (a b : UInt8) (h : DkAt code pc [178, a, b]) : decode code pc = .ok (.getstatic (a.toNat * 256 + b.toNat), 3) := dk_of ((dk_bind (dk_u1 (h 0 _ rfl))).trans ((dk_bind (dk_u2 (h 1 _ rfl) (h 2 _ rfl))).trans rfl))
theorem dk_180 {code : ByteArray} {pc : Nat} (a b : UInt8) (h : DkAt code pc [180, a, b]) : decode code pc = .ok (.getfield (a.toNat * 256 + b.toNat), 3) := dk_of ((dk_bind (dk_u1 (h 0 _ rfl))).trans ((dk_bind (dk_u2 (h 1 _ rfl) (h 2 _ rfl))).trans rfl))
theorem dk_181 {code : ByteArray} {pc : Nat} (a b : UInt8) (h : DkAt code pc [181, a, b]) : decode code pc = .ok (.putfield (a.toNat * 256 + b.toNat), 3) := dk_of ((dk_bind (dk_u1 (h 0 _ rfl))).trans ((dk_bind (dk_u2 (h 1 _ rfl) (h 2 _ rfl))).trans rfl))
theorem dk_182 {code : ByteArray} {pc : Nat} (a b : UInt8) (h : DkAt code pc [182, a, b]) : decode code pc = .ok (.invokevirtual (a.toNat * 256 + b.toNat), 3) := dk_of ((dk_bind (dk_u1 (h 0 _ rfl))).trans ((dk_bind (dk_u2 (h 1 _ rfl) (h 2 _ rfl))).trans rfl))
theorem dk_183 {code : ByteArray} {pc : Nat} (a b : UInt8) (h : DkAt code pc [183, a, b]) : decode code pc = .ok (.invokespecial (a.toNat * 256 + b.toNat), 3) := dk_of ((dk_bind (dk_u1 (h 0 _ rfl))).trans ((dk_bind (dk_u2 (h 1 _ rfl) (h 2 _ rfl))).trans rfl))
theorem dk_184 {code : ByteArray} {pc : Nat} (a b : UInt8) (h : DkAt code pc [184, a, b]) : decode code pc = .ok (.invokestatic (a.toNat * 256 + b.toNat), 3) := dk_of ((dk_bind (dk_u1 (h 0 _ rfl))).trans ((dk_bind (dk_u2 (h 1 _ rfl) (h 2 _ rfl))).trans rfl))
theorem dk_187 {code : ByteArray} {pc : Nat} (a b : UInt8) (h : DkAt code pc [187, a, b]) : decode code pc = .ok (.new (a.toNat * 256 + b.toNat), 3) := dk_of ((dk_bind (dk_u1 (h 0 _ rfl))).trans ((dk_bind (dk_u2 (h 1 _ rfl) (h 2 _ rfl))).trans rfl))
theorem dk_188_10 {code : ByteArray} {pc : Nat} (h : DkAt code pc [188, 10]) : decode code pc = .ok (.newarray .int, 2) := dk_of ((dk_bind (dk_u1 (h 0 _ rfl))).trans ((dk_bind (dk_u1 (h 1 _ rfl))).trans rfl))
theorem dk_189 {code : ByteArray} {pc : Nat} (a b : UInt8) (h : DkAt code pc [189, a, b]) : decode code pc = .ok (.anewarray (a.toNat * 256 + b.toNat), 3) := dk_of ((dk_bind (dk_u1 (h 0 _ rfl))).trans ((dk_bind (dk_u2 (h 1 _ rfl) (h 2 _ rfl))).trans rfl))
theorem dk_190 {code : ByteArray} {pc : Nat} (h : DkAt code pc [190]) : decode code pc = .ok (.arraylength, 1) := dk_of ((dk_bind (dk_u1 (h 0 _ rfl))).trans rfl)
theorem dk_191 {code : ByteArray} {pc : Nat} (h : DkAt code pc [191]) : decode code pc = .ok (.athrow, 1) := dk_of ((dk_bind (dk_u1 (h 0 _ rfl))).trans rfl)
theorem dk_192 {code : ByteArray} {pc : Nat} (a b : UInt8) (h : DkAt code pc [192, a, b]) : decode code pc = .ok (.checkcast (a.toNat * 256 + b.toNat), 3) := dk_of ((dk_bind (dk_u1 (h 0 _ rfl))).trans ((dk_bind (dk_u2 (h 1 _ rfl) (h 2 _ rfl))).trans rfl))
theorem dk_199 {code : ByteArray} {pc : Nat} (a b : UInt8) (h : DkAt code pc [199, a, b]) : decode code pc = .ok (.ifnonnull (Reader.signed 16 (a.toNat * 256 + b.toNat)), 3) := dk_of ((dk_bind (dk_u1 (h 0 _ rfl))).trans ((dk_bind (dk_map (dk_u2 (h 1 _ rfl) (h 2 _ rfl)))).trans rfl))
end
section
/-! DaryArrayHeapDesk -/
set_option maxRecDepth 100000
def RX0 : String := "DaryArrayHeapDesk"
def TX0 : u_T := fun k => match k with
  | 0 => ("DaryArrayHeapDesk", "file", "[LDaryArrayHeap;", true)
  | _ => ("DaryArrayHeapDesk", "puts", "I", false)
def tyX0 : Nat → FieldType := fun k => match k with
  | 0 => .array (.object "DaryArrayHeap")
  | _ => .int
abbrev wsX00 : List Cond := u_ws RX0 TX0 2
theorem nmX0 : ∀ a, a < 2 → ∀ b, b < 2 → a ≠ b → (TX0 a).2.1 ≠ (TX0 b).2.1 := by decide +kernel
theorem tyX0_ok : ∀ k, k < 2 → parseFieldDescriptor (TX0 k).2.2.1 = some (tyX0 k) := by decide +kernel
abbrev cX0_init : ByteArray := prog_5_method_1_code
def yX0_init : MethodName := ⟨RX0, "<init>", "()V"⟩
def dkwX0_init_0 : List UInt8 := [42, 183, 0, 1, 42, 184, 0, 7, 181, 0, 13, 177]
abbrev dktX0_init_0 : List UInt8 := dkwX0_init_0 ++ []
theorem dksX0_init_0 : cX0_init.data.toList.drop 0 = dktX0_init_0 := by decide +kernel
theorem dX0_init_0 : decode cX0_init 0 = .ok (.aload_n 0, 1) := dk_42 (dk_at dksX0_init_0 0 rfl rfl)
theorem dX0_init_1 : decode cX0_init 1 = .ok (.invokespecial 1, 3) := dk_183 0 1 (dk_at dksX0_init_0 1 rfl rfl)
theorem dX0_init_4 : decode cX0_init 4 = .ok (.aload_n 0, 1) := dk_42 (dk_at dksX0_init_0 4 rfl rfl)
theorem dX0_init_5 : decode cX0_init 5 = .ok (.invokestatic 7, 3) := dk_184 0 7 (dk_at dksX0_init_0 5 rfl rfl)
theorem dX0_init_8 : decode cX0_init 8 = .ok (.putfield 13, 3) := dk_181 0 13 (dk_at dksX0_init_0 8 rfl rfl)
theorem dX0_init_11 : decode cX0_init 11 = .ok (.return_, 1) := dk_177 (dk_at dksX0_init_0 11 rfl rfl)
abbrev cX0_make : ByteArray := prog_5_method_3_code
def yX0_make : MethodName := ⟨RX0, "make", "()[LDaryArrayHeap;"⟩
def dkwX0_make_1 : List UInt8 := [167, 255, 241, 42, 176]
abbrev dktX0_make_1 : List UInt8 := dkwX0_make_1 ++ []
def dkwX0_make_0 : List UInt8 := [7, 189, 0, 23, 75, 3, 60, 27, 7, 162, 0, 16, 42, 27, 27, 184, 0, 25, 83, 132, 1, 1]
abbrev dktX0_make_0 : List UInt8 := dkwX0_make_0 ++ dktX0_make_1
theorem dksX0_make_0 : cX0_make.data.toList.drop 0 = dktX0_make_0 := by decide +kernel
theorem dksX0_make_1 : cX0_make.data.toList.drop 22 = dktX0_make_1 := dk_seg dksX0_make_0 22 rfl rfl
theorem dX0_make_0 : decode cX0_make 0 = .ok (.iconst 4, 1) := dk_7 (dk_at dksX0_make_0 0 rfl rfl)
theorem dX0_make_1 : decode cX0_make 1 = .ok (.anewarray 23, 3) := dk_189 0 23 (dk_at dksX0_make_0 1 rfl rfl)
theorem dX0_make_4 : decode cX0_make 4 = .ok (.astore_n 0, 1) := dk_75 (dk_at dksX0_make_0 4 rfl rfl)
theorem dX0_make_5 : decode cX0_make 5 = .ok (.iconst 0, 1) := dk_3 (dk_at dksX0_make_0 5 rfl rfl)
theorem dX0_make_6 : decode cX0_make 6 = .ok (.istore_n 1, 1) := dk_60 (dk_at dksX0_make_0 6 rfl rfl)
theorem dX0_make_7 : decode cX0_make 7 = .ok (.iload_n 1, 1) := dk_27 (dk_at dksX0_make_0 7 rfl rfl)
theorem dX0_make_8 : decode cX0_make 8 = .ok (.iconst 4, 1) := dk_7 (dk_at dksX0_make_0 8 rfl rfl)
theorem dX0_make_9 : decode cX0_make 9 = .ok (.if_icmp .ge 16, 3) := dk_162 0 16 (dk_at dksX0_make_0 9 rfl rfl)
theorem dX0_make_12 : decode cX0_make 12 = .ok (.aload_n 0, 1) := dk_42 (dk_at dksX0_make_0 12 rfl rfl)
theorem dX0_make_13 : decode cX0_make 13 = .ok (.iload_n 1, 1) := dk_27 (dk_at dksX0_make_0 13 rfl rfl)
theorem dX0_make_14 : decode cX0_make 14 = .ok (.iload_n 1, 1) := dk_27 (dk_at dksX0_make_0 14 rfl rfl)
theorem dX0_make_15 : decode cX0_make 15 = .ok (.invokestatic 25, 3) := dk_184 0 25 (dk_at dksX0_make_0 15 rfl rfl)
theorem dX0_make_18 : decode cX0_make 18 = .ok (.aastore, 1) := dk_83 (dk_at dksX0_make_0 18 rfl rfl)
theorem dX0_make_19 : decode cX0_make 19 = .ok (.iinc 1 1, 3) := dk_132 1 1 (dk_at dksX0_make_0 19 rfl rfl)
theorem dX0_make_22 : decode cX0_make 22 = .ok (.goto (-15), 3) := dk_167 255 241 (dk_at dksX0_make_1 0 rfl rfl)
theorem dX0_make_25 : decode cX0_make 25 = .ok (.aload_n 0, 1) := dk_42 (dk_at dksX0_make_1 3 rfl rfl)
theorem dX0_make_26 : decode cX0_make 26 = .ok (.areturn, 1) := dk_176 (dk_at dksX0_make_1 4 rfl rfl)
abbrev cX0_fresh : ByteArray := prog_5_method_4_code
def yX0_fresh : MethodName := ⟨RX0, "fresh", "(I)LDaryArrayHeap;"⟩
def dkwX0_fresh_1 : List UInt8 := [178, 0, 32, 183, 0, 36, 176]
abbrev dktX0_fresh_1 : List UInt8 := dkwX0_fresh_1 ++ []
def dkwX0_fresh_0 : List UInt8 := [26, 5, 162, 0, 16, 187, 0, 23, 89, 5, 26, 96, 183, 0, 29, 167, 0, 14, 187, 0, 23, 89, 26]
abbrev dktX0_fresh_0 : List UInt8 := dkwX0_fresh_0 ++ dktX0_fresh_1
theorem dksX0_fresh_0 : cX0_fresh.data.toList.drop 0 = dktX0_fresh_0 := by decide +kernel
theorem dksX0_fresh_1 : cX0_fresh.data.toList.drop 23 = dktX0_fresh_1 := dk_seg dksX0_fresh_0 23 rfl rfl
theorem dX0_fresh_0 : decode cX0_fresh 0 = .ok (.iload_n 0, 1) := dk_26 (dk_at dksX0_fresh_0 0 rfl rfl)
theorem dX0_fresh_1 : decode cX0_fresh 1 = .ok (.iconst 2, 1) := dk_5 (dk_at dksX0_fresh_0 1 rfl rfl)
theorem dX0_fresh_2 : decode cX0_fresh 2 = .ok (.if_icmp .ge 16, 3) := dk_162 0 16 (dk_at dksX0_fresh_0 2 rfl rfl)
theorem dX0_fresh_5 : decode cX0_fresh 5 = .ok (.new 23, 3) := dk_187 0 23 (dk_at dksX0_fresh_0 5 rfl rfl)
theorem dX0_fresh_8 : decode cX0_fresh 8 = .ok (.dup, 1) := dk_89 (dk_at dksX0_fresh_0 8 rfl rfl)
theorem dX0_fresh_9 : decode cX0_fresh 9 = .ok (.iconst 2, 1) := dk_5 (dk_at dksX0_fresh_0 9 rfl rfl)
theorem dX0_fresh_10 : decode cX0_fresh 10 = .ok (.iload_n 0, 1) := dk_26 (dk_at dksX0_fresh_0 10 rfl rfl)
theorem dX0_fresh_11 : decode cX0_fresh 11 = .ok (.iadd, 1) := dk_96 (dk_at dksX0_fresh_0 11 rfl rfl)
theorem dX0_fresh_12 : decode cX0_fresh 12 = .ok (.invokespecial 29, 3) := dk_183 0 29 (dk_at dksX0_fresh_0 12 rfl rfl)
theorem dX0_fresh_15 : decode cX0_fresh 15 = .ok (.goto 14, 3) := dk_167 0 14 (dk_at dksX0_fresh_0 15 rfl rfl)
theorem dX0_fresh_18 : decode cX0_fresh 18 = .ok (.new 23, 3) := dk_187 0 23 (dk_at dksX0_fresh_0 18 rfl rfl)
theorem dX0_fresh_21 : decode cX0_fresh 21 = .ok (.dup, 1) := dk_89 (dk_at dksX0_fresh_0 21 rfl rfl)
theorem dX0_fresh_22 : decode cX0_fresh 22 = .ok (.iload_n 0, 1) := dk_26 (dk_at dksX0_fresh_0 22 rfl rfl)
theorem dX0_fresh_23 : decode cX0_fresh 23 = .ok (.getstatic 32, 3) := dk_178 0 32 (dk_at dksX0_fresh_1 0 rfl rfl)
theorem dX0_fresh_26 : decode cX0_fresh 26 = .ok (.invokespecial 36, 3) := dk_183 0 36 (dk_at dksX0_fresh_1 3 rfl rfl)
theorem dX0_fresh_29 : decode cX0_fresh 29 = .ok (.areturn, 1) := dk_176 (dk_at dksX0_fresh_1 6 rfl rfl)
abbrev cX0_put : ByteArray := prog_5_method_5_code
def yX0_put : MethodName := ⟨RX0, "put", "(II)Z"⟩
def dkwX0_put_1 : List UInt8 := [180, 0, 13, 27, 6, 126, 50, 28, 18, 43, 126, 184, 0, 44, 182, 0, 48, 4, 172]
abbrev dktX0_put_1 : List UInt8 := dkwX0_put_1 ++ []
def dkwX0_put_0 : List UInt8 := [42, 180, 0, 39, 16, 64, 161, 0, 5, 3, 172, 42, 89, 180, 0, 39, 4, 96, 181, 0, 39, 42]
abbrev dktX0_put_0 : List UInt8 := dkwX0_put_0 ++ dktX0_put_1
theorem dksX0_put_0 : cX0_put.data.toList.drop 0 = dktX0_put_0 := by decide +kernel
theorem dksX0_put_1 : cX0_put.data.toList.drop 22 = dktX0_put_1 := dk_seg dksX0_put_0 22 rfl rfl
theorem dX0_put_0 : decode cX0_put 0 = .ok (.aload_n 0, 1) := dk_42 (dk_at dksX0_put_0 0 rfl rfl)
theorem dX0_put_1 : decode cX0_put 1 = .ok (.getfield 39, 3) := dk_180 0 39 (dk_at dksX0_put_0 1 rfl rfl)
theorem dX0_put_4 : decode cX0_put 4 = .ok (.bipush 64, 2) := dk_16 64 (dk_at dksX0_put_0 4 rfl rfl)
theorem dX0_put_6 : decode cX0_put 6 = .ok (.if_icmp .lt 5, 3) := dk_161 0 5 (dk_at dksX0_put_0 6 rfl rfl)
theorem dX0_put_9 : decode cX0_put 9 = .ok (.iconst 0, 1) := dk_3 (dk_at dksX0_put_0 9 rfl rfl)
theorem dX0_put_10 : decode cX0_put 10 = .ok (.ireturn, 1) := dk_172 (dk_at dksX0_put_0 10 rfl rfl)
theorem dX0_put_11 : decode cX0_put 11 = .ok (.aload_n 0, 1) := dk_42 (dk_at dksX0_put_0 11 rfl rfl)
theorem dX0_put_12 : decode cX0_put 12 = .ok (.dup, 1) := dk_89 (dk_at dksX0_put_0 12 rfl rfl)
theorem dX0_put_13 : decode cX0_put 13 = .ok (.getfield 39, 3) := dk_180 0 39 (dk_at dksX0_put_0 13 rfl rfl)
theorem dX0_put_16 : decode cX0_put 16 = .ok (.iconst 1, 1) := dk_4 (dk_at dksX0_put_0 16 rfl rfl)
theorem dX0_put_17 : decode cX0_put 17 = .ok (.iadd, 1) := dk_96 (dk_at dksX0_put_0 17 rfl rfl)
theorem dX0_put_18 : decode cX0_put 18 = .ok (.putfield 39, 3) := dk_181 0 39 (dk_at dksX0_put_0 18 rfl rfl)
theorem dX0_put_21 : decode cX0_put 21 = .ok (.aload_n 0, 1) := dk_42 (dk_at dksX0_put_0 21 rfl rfl)
theorem dX0_put_22 : decode cX0_put 22 = .ok (.getfield 13, 3) := dk_180 0 13 (dk_at dksX0_put_1 0 rfl rfl)
theorem dX0_put_25 : decode cX0_put 25 = .ok (.iload_n 1, 1) := dk_27 (dk_at dksX0_put_1 3 rfl rfl)
theorem dX0_put_26 : decode cX0_put 26 = .ok (.iconst 3, 1) := dk_6 (dk_at dksX0_put_1 4 rfl rfl)
theorem dX0_put_27 : decode cX0_put 27 = .ok (.iand, 1) := dk_126 (dk_at dksX0_put_1 5 rfl rfl)
theorem dX0_put_28 : decode cX0_put 28 = .ok (.aaload, 1) := dk_50 (dk_at dksX0_put_1 6 rfl rfl)
theorem dX0_put_29 : decode cX0_put 29 = .ok (.iload_n 2, 1) := dk_28 (dk_at dksX0_put_1 7 rfl rfl)
theorem dX0_put_30 : decode cX0_put 30 = .ok (.ldc 43, 2) := dk_18 43 (dk_at dksX0_put_1 8 rfl rfl)
theorem dX0_put_32 : decode cX0_put 32 = .ok (.iand, 1) := dk_126 (dk_at dksX0_put_1 10 rfl rfl)
theorem dX0_put_33 : decode cX0_put 33 = .ok (.invokestatic 44, 3) := dk_184 0 44 (dk_at dksX0_put_1 11 rfl rfl)
theorem dX0_put_36 : decode cX0_put 36 = .ok (.invokevirtual 48, 3) := dk_182 0 48 (dk_at dksX0_put_1 14 rfl rfl)
theorem dX0_put_39 : decode cX0_put 39 = .ok (.iconst 1, 1) := dk_4 (dk_at dksX0_put_1 17 rfl rfl)
theorem dX0_put_40 : decode cX0_put 40 = .ok (.ireturn, 1) := dk_172 (dk_at dksX0_put_1 18 rfl rfl)
abbrev cX0_order : ByteArray := prog_5_method_2_code
def yX0_order : MethodName := ⟨RX0, "order", "(Ljava/lang/Object;Ljava/lang/Object;)I"⟩
def dkwX0_order_1 : List UInt8 := [167, 0, 13, 28, 29, 164, 0, 7, 4, 167, 0, 4, 3, 172]
abbrev dktX0_order_1 : List UInt8 := dkwX0_order_1 ++ []
def dkwX0_order_0 : List UInt8 := [42, 192, 0, 17, 182, 0, 19, 61, 43, 192, 0, 17, 182, 0, 19, 62, 28, 29, 162, 0, 7, 2]
abbrev dktX0_order_0 : List UInt8 := dkwX0_order_0 ++ dktX0_order_1
theorem dksX0_order_0 : cX0_order.data.toList.drop 0 = dktX0_order_0 := by decide +kernel
theorem dksX0_order_1 : cX0_order.data.toList.drop 22 = dktX0_order_1 := dk_seg dksX0_order_0 22 rfl rfl
theorem dX0_order_0 : decode cX0_order 0 = .ok (.aload_n 0, 1) := dk_42 (dk_at dksX0_order_0 0 rfl rfl)
theorem dX0_order_1 : decode cX0_order 1 = .ok (.checkcast 17, 3) := dk_192 0 17 (dk_at dksX0_order_0 1 rfl rfl)
theorem dX0_order_4 : decode cX0_order 4 = .ok (.invokevirtual 19, 3) := dk_182 0 19 (dk_at dksX0_order_0 4 rfl rfl)
theorem dX0_order_7 : decode cX0_order 7 = .ok (.istore_n 2, 1) := dk_61 (dk_at dksX0_order_0 7 rfl rfl)
theorem dX0_order_8 : decode cX0_order 8 = .ok (.aload_n 1, 1) := dk_43 (dk_at dksX0_order_0 8 rfl rfl)
theorem dX0_order_9 : decode cX0_order 9 = .ok (.checkcast 17, 3) := dk_192 0 17 (dk_at dksX0_order_0 9 rfl rfl)
theorem dX0_order_12 : decode cX0_order 12 = .ok (.invokevirtual 19, 3) := dk_182 0 19 (dk_at dksX0_order_0 12 rfl rfl)
theorem dX0_order_15 : decode cX0_order 15 = .ok (.istore_n 3, 1) := dk_62 (dk_at dksX0_order_0 15 rfl rfl)
theorem dX0_order_16 : decode cX0_order 16 = .ok (.iload_n 2, 1) := dk_28 (dk_at dksX0_order_0 16 rfl rfl)
theorem dX0_order_17 : decode cX0_order 17 = .ok (.iload_n 3, 1) := dk_29 (dk_at dksX0_order_0 17 rfl rfl)
theorem dX0_order_18 : decode cX0_order 18 = .ok (.if_icmp .ge 7, 3) := dk_162 0 7 (dk_at dksX0_order_0 18 rfl rfl)
theorem dX0_order_21 : decode cX0_order 21 = .ok (.iconst (-1), 1) := dk_2 (dk_at dksX0_order_0 21 rfl rfl)
theorem dX0_order_22 : decode cX0_order 22 = .ok (.goto 13, 3) := dk_167 0 13 (dk_at dksX0_order_1 0 rfl rfl)
theorem dX0_order_25 : decode cX0_order 25 = .ok (.iload_n 2, 1) := dk_28 (dk_at dksX0_order_1 3 rfl rfl)
theorem dX0_order_26 : decode cX0_order 26 = .ok (.iload_n 3, 1) := dk_29 (dk_at dksX0_order_1 4 rfl rfl)
theorem dX0_order_27 : decode cX0_order 27 = .ok (.if_icmp .le 7, 3) := dk_164 0 7 (dk_at dksX0_order_1 5 rfl rfl)
theorem dX0_order_30 : decode cX0_order 30 = .ok (.iconst 1, 1) := dk_4 (dk_at dksX0_order_1 8 rfl rfl)
theorem dX0_order_31 : decode cX0_order 31 = .ok (.goto 4, 3) := dk_167 0 4 (dk_at dksX0_order_1 9 rfl rfl)
theorem dX0_order_34 : decode cX0_order 34 = .ok (.iconst 0, 1) := dk_3 (dk_at dksX0_order_1 12 rfl rfl)
theorem dX0_order_35 : decode cX0_order 35 = .ok (.ireturn, 1) := dk_172 (dk_at dksX0_order_1 13 rfl rfl)
abbrev cX0_four : ByteArray := prog_5_method_6_code
def yX0_four : MethodName := ⟨RX0, "four", "(IIIII)Z"⟩
def dkwX0_four_4 : List UInt8 := [184, 0, 52, 167, 0, 13, 21, 7, 25, 6, 178, 0, 32, 184, 0, 56, 83, 4, 172]
abbrev dktX0_four_4 : List UInt8 := dkwX0_four_4 ++ []
def dkwX0_four_3 : List UInt8 := [6, 126, 54, 7, 42, 180, 0, 13, 21, 7, 21, 7, 5, 162, 0, 15, 5, 21, 7, 96, 25, 6]
abbrev dktX0_four_3 : List UInt8 := dkwX0_four_3 ++ dktX0_four_4
def dkwX0_four_2 : List UInt8 := [5, 21, 4, 18, 43, 126, 184, 0, 44, 83, 89, 6, 21, 5, 18, 43, 126, 184, 0, 44, 83, 58, 6, 27]
abbrev dktX0_four_2 : List UInt8 := dkwX0_four_2 ++ dktX0_four_3
def dkwX0_four_1 : List UInt8 := [189, 0, 17, 89, 3, 28, 18, 43, 126, 184, 0, 44, 83, 89, 4, 29, 18, 43, 126, 184, 0, 44, 83, 89]
abbrev dktX0_four_1 : List UInt8 := dkwX0_four_1 ++ dktX0_four_2
def dkwX0_four_0 : List UInt8 := [42, 180, 0, 39, 16, 60, 164, 0, 5, 3, 172, 42, 89, 180, 0, 39, 7, 96, 181, 0, 39, 7]
abbrev dktX0_four_0 : List UInt8 := dkwX0_four_0 ++ dktX0_four_1
theorem dksX0_four_0 : cX0_four.data.toList.drop 0 = dktX0_four_0 := by decide +kernel
theorem dksX0_four_1 : cX0_four.data.toList.drop 22 = dktX0_four_1 := dk_seg dksX0_four_0 22 rfl rfl
theorem dksX0_four_2 : cX0_four.data.toList.drop 46 = dktX0_four_2 := dk_seg dksX0_four_1 24 rfl rfl
theorem dksX0_four_3 : cX0_four.data.toList.drop 70 = dktX0_four_3 := dk_seg dksX0_four_2 24 rfl rfl
theorem dksX0_four_4 : cX0_four.data.toList.drop 92 = dktX0_four_4 := dk_seg dksX0_four_3 22 rfl rfl
theorem dX0_four_0 : decode cX0_four 0 = .ok (.aload_n 0, 1) := dk_42 (dk_at dksX0_four_0 0 rfl rfl)
theorem dX0_four_1 : decode cX0_four 1 = .ok (.getfield 39, 3) := dk_180 0 39 (dk_at dksX0_four_0 1 rfl rfl)
theorem dX0_four_4 : decode cX0_four 4 = .ok (.bipush 60, 2) := dk_16 60 (dk_at dksX0_four_0 4 rfl rfl)
theorem dX0_four_6 : decode cX0_four 6 = .ok (.if_icmp .le 5, 3) := dk_164 0 5 (dk_at dksX0_four_0 6 rfl rfl)
theorem dX0_four_9 : decode cX0_four 9 = .ok (.iconst 0, 1) := dk_3 (dk_at dksX0_four_0 9 rfl rfl)
theorem dX0_four_10 : decode cX0_four 10 = .ok (.ireturn, 1) := dk_172 (dk_at dksX0_four_0 10 rfl rfl)
theorem dX0_four_11 : decode cX0_four 11 = .ok (.aload_n 0, 1) := dk_42 (dk_at dksX0_four_0 11 rfl rfl)
theorem dX0_four_12 : decode cX0_four 12 = .ok (.dup, 1) := dk_89 (dk_at dksX0_four_0 12 rfl rfl)
theorem dX0_four_13 : decode cX0_four 13 = .ok (.getfield 39, 3) := dk_180 0 39 (dk_at dksX0_four_0 13 rfl rfl)
theorem dX0_four_16 : decode cX0_four 16 = .ok (.iconst 4, 1) := dk_7 (dk_at dksX0_four_0 16 rfl rfl)
theorem dX0_four_17 : decode cX0_four 17 = .ok (.iadd, 1) := dk_96 (dk_at dksX0_four_0 17 rfl rfl)
theorem dX0_four_18 : decode cX0_four 18 = .ok (.putfield 39, 3) := dk_181 0 39 (dk_at dksX0_four_0 18 rfl rfl)
theorem dX0_four_21 : decode cX0_four 21 = .ok (.iconst 4, 1) := dk_7 (dk_at dksX0_four_0 21 rfl rfl)
theorem dX0_four_22 : decode cX0_four 22 = .ok (.anewarray 17, 3) := dk_189 0 17 (dk_at dksX0_four_1 0 rfl rfl)
theorem dX0_four_25 : decode cX0_four 25 = .ok (.dup, 1) := dk_89 (dk_at dksX0_four_1 3 rfl rfl)
theorem dX0_four_26 : decode cX0_four 26 = .ok (.iconst 0, 1) := dk_3 (dk_at dksX0_four_1 4 rfl rfl)
theorem dX0_four_27 : decode cX0_four 27 = .ok (.iload_n 2, 1) := dk_28 (dk_at dksX0_four_1 5 rfl rfl)
theorem dX0_four_28 : decode cX0_four 28 = .ok (.ldc 43, 2) := dk_18 43 (dk_at dksX0_four_1 6 rfl rfl)
theorem dX0_four_30 : decode cX0_four 30 = .ok (.iand, 1) := dk_126 (dk_at dksX0_four_1 8 rfl rfl)
theorem dX0_four_31 : decode cX0_four 31 = .ok (.invokestatic 44, 3) := dk_184 0 44 (dk_at dksX0_four_1 9 rfl rfl)
theorem dX0_four_34 : decode cX0_four 34 = .ok (.aastore, 1) := dk_83 (dk_at dksX0_four_1 12 rfl rfl)
theorem dX0_four_35 : decode cX0_four 35 = .ok (.dup, 1) := dk_89 (dk_at dksX0_four_1 13 rfl rfl)
theorem dX0_four_36 : decode cX0_four 36 = .ok (.iconst 1, 1) := dk_4 (dk_at dksX0_four_1 14 rfl rfl)
theorem dX0_four_37 : decode cX0_four 37 = .ok (.iload_n 3, 1) := dk_29 (dk_at dksX0_four_1 15 rfl rfl)
theorem dX0_four_38 : decode cX0_four 38 = .ok (.ldc 43, 2) := dk_18 43 (dk_at dksX0_four_1 16 rfl rfl)
theorem dX0_four_40 : decode cX0_four 40 = .ok (.iand, 1) := dk_126 (dk_at dksX0_four_1 18 rfl rfl)
theorem dX0_four_41 : decode cX0_four 41 = .ok (.invokestatic 44, 3) := dk_184 0 44 (dk_at dksX0_four_1 19 rfl rfl)
theorem dX0_four_44 : decode cX0_four 44 = .ok (.aastore, 1) := dk_83 (dk_at dksX0_four_1 22 rfl rfl)
theorem dX0_four_45 : decode cX0_four 45 = .ok (.dup, 1) := dk_89 (dk_at dksX0_four_1 23 rfl rfl)
theorem dX0_four_46 : decode cX0_four 46 = .ok (.iconst 2, 1) := dk_5 (dk_at dksX0_four_2 0 rfl rfl)
theorem dX0_four_47 : decode cX0_four 47 = .ok (.iload 4, 2) := dk_21 4 (dk_at dksX0_four_2 1 rfl rfl)
theorem dX0_four_49 : decode cX0_four 49 = .ok (.ldc 43, 2) := dk_18 43 (dk_at dksX0_four_2 3 rfl rfl)
theorem dX0_four_51 : decode cX0_four 51 = .ok (.iand, 1) := dk_126 (dk_at dksX0_four_2 5 rfl rfl)
theorem dX0_four_52 : decode cX0_four 52 = .ok (.invokestatic 44, 3) := dk_184 0 44 (dk_at dksX0_four_2 6 rfl rfl)
theorem dX0_four_55 : decode cX0_four 55 = .ok (.aastore, 1) := dk_83 (dk_at dksX0_four_2 9 rfl rfl)
theorem dX0_four_56 : decode cX0_four 56 = .ok (.dup, 1) := dk_89 (dk_at dksX0_four_2 10 rfl rfl)
theorem dX0_four_57 : decode cX0_four 57 = .ok (.iconst 3, 1) := dk_6 (dk_at dksX0_four_2 11 rfl rfl)
theorem dX0_four_58 : decode cX0_four 58 = .ok (.iload 5, 2) := dk_21 5 (dk_at dksX0_four_2 12 rfl rfl)
theorem dX0_four_60 : decode cX0_four 60 = .ok (.ldc 43, 2) := dk_18 43 (dk_at dksX0_four_2 14 rfl rfl)
theorem dX0_four_62 : decode cX0_four 62 = .ok (.iand, 1) := dk_126 (dk_at dksX0_four_2 16 rfl rfl)
theorem dX0_four_63 : decode cX0_four 63 = .ok (.invokestatic 44, 3) := dk_184 0 44 (dk_at dksX0_four_2 17 rfl rfl)
theorem dX0_four_66 : decode cX0_four 66 = .ok (.aastore, 1) := dk_83 (dk_at dksX0_four_2 20 rfl rfl)
theorem dX0_four_67 : decode cX0_four 67 = .ok (.astore 6, 2) := dk_58 6 (dk_at dksX0_four_2 21 rfl rfl)
theorem dX0_four_69 : decode cX0_four 69 = .ok (.iload_n 1, 1) := dk_27 (dk_at dksX0_four_2 23 rfl rfl)
theorem dX0_four_70 : decode cX0_four 70 = .ok (.iconst 3, 1) := dk_6 (dk_at dksX0_four_3 0 rfl rfl)
theorem dX0_four_71 : decode cX0_four 71 = .ok (.iand, 1) := dk_126 (dk_at dksX0_four_3 1 rfl rfl)
theorem dX0_four_72 : decode cX0_four 72 = .ok (.istore 7, 2) := dk_54 7 (dk_at dksX0_four_3 2 rfl rfl)
theorem dX0_four_74 : decode cX0_four 74 = .ok (.aload_n 0, 1) := dk_42 (dk_at dksX0_four_3 4 rfl rfl)
theorem dX0_four_75 : decode cX0_four 75 = .ok (.getfield 13, 3) := dk_180 0 13 (dk_at dksX0_four_3 5 rfl rfl)
theorem dX0_four_78 : decode cX0_four 78 = .ok (.iload 7, 2) := dk_21 7 (dk_at dksX0_four_3 8 rfl rfl)
theorem dX0_four_80 : decode cX0_four 80 = .ok (.iload 7, 2) := dk_21 7 (dk_at dksX0_four_3 10 rfl rfl)
theorem dX0_four_82 : decode cX0_four 82 = .ok (.iconst 2, 1) := dk_5 (dk_at dksX0_four_3 12 rfl rfl)
theorem dX0_four_83 : decode cX0_four 83 = .ok (.if_icmp .ge 15, 3) := dk_162 0 15 (dk_at dksX0_four_3 13 rfl rfl)
theorem dX0_four_86 : decode cX0_four 86 = .ok (.iconst 2, 1) := dk_5 (dk_at dksX0_four_3 16 rfl rfl)
theorem dX0_four_87 : decode cX0_four 87 = .ok (.iload 7, 2) := dk_21 7 (dk_at dksX0_four_3 17 rfl rfl)
theorem dX0_four_89 : decode cX0_four 89 = .ok (.iadd, 1) := dk_96 (dk_at dksX0_four_3 19 rfl rfl)
theorem dX0_four_90 : decode cX0_four 90 = .ok (.aload 6, 2) := dk_25 6 (dk_at dksX0_four_3 20 rfl rfl)
theorem dX0_four_92 : decode cX0_four 92 = .ok (.invokestatic 52, 3) := dk_184 0 52 (dk_at dksX0_four_4 0 rfl rfl)
theorem dX0_four_95 : decode cX0_four 95 = .ok (.goto 13, 3) := dk_167 0 13 (dk_at dksX0_four_4 3 rfl rfl)
theorem dX0_four_98 : decode cX0_four 98 = .ok (.iload 7, 2) := dk_21 7 (dk_at dksX0_four_4 6 rfl rfl)
theorem dX0_four_100 : decode cX0_four 100 = .ok (.aload 6, 2) := dk_25 6 (dk_at dksX0_four_4 8 rfl rfl)
theorem dX0_four_102 : decode cX0_four 102 = .ok (.getstatic 32, 3) := dk_178 0 32 (dk_at dksX0_four_4 10 rfl rfl)
theorem dX0_four_105 : decode cX0_four 105 = .ok (.invokestatic 56, 3) := dk_184 0 56 (dk_at dksX0_four_4 13 rfl rfl)
theorem dX0_four_108 : decode cX0_four 108 = .ok (.aastore, 1) := dk_83 (dk_at dksX0_four_4 16 rfl rfl)
theorem dX0_four_109 : decode cX0_four 109 = .ok (.iconst 1, 1) := dk_4 (dk_at dksX0_four_4 17 rfl rfl)
theorem dX0_four_110 : decode cX0_four 110 = .ok (.ireturn, 1) := dk_172 (dk_at dksX0_four_4 18 rfl rfl)
abbrev cX0_least : ByteArray := prog_5_method_7_code
def yX0_least : MethodName := ⟨RX0, "least", "(I)I"⟩
def dkwX0_least_1 : List UInt8 := [192, 0, 17, 182, 0, 19, 172]
abbrev dktX0_least_1 : List UInt8 := dkwX0_least_1 ++ []
def dkwX0_least_0 : List UInt8 := [42, 180, 0, 13, 27, 6, 126, 50, 77, 44, 182, 0, 59, 153, 0, 7, 2, 167, 0, 13, 44, 182, 0, 63]
abbrev dktX0_least_0 : List UInt8 := dkwX0_least_0 ++ dktX0_least_1
theorem dksX0_least_0 : cX0_least.data.toList.drop 0 = dktX0_least_0 := by decide +kernel
theorem dksX0_least_1 : cX0_least.data.toList.drop 24 = dktX0_least_1 := dk_seg dksX0_least_0 24 rfl rfl
theorem dX0_least_0 : decode cX0_least 0 = .ok (.aload_n 0, 1) := dk_42 (dk_at dksX0_least_0 0 rfl rfl)
theorem dX0_least_1 : decode cX0_least 1 = .ok (.getfield 13, 3) := dk_180 0 13 (dk_at dksX0_least_0 1 rfl rfl)
theorem dX0_least_4 : decode cX0_least 4 = .ok (.iload_n 1, 1) := dk_27 (dk_at dksX0_least_0 4 rfl rfl)
theorem dX0_least_5 : decode cX0_least 5 = .ok (.iconst 3, 1) := dk_6 (dk_at dksX0_least_0 5 rfl rfl)
theorem dX0_least_6 : decode cX0_least 6 = .ok (.iand, 1) := dk_126 (dk_at dksX0_least_0 6 rfl rfl)
theorem dX0_least_7 : decode cX0_least 7 = .ok (.aaload, 1) := dk_50 (dk_at dksX0_least_0 7 rfl rfl)
theorem dX0_least_8 : decode cX0_least 8 = .ok (.astore_n 2, 1) := dk_77 (dk_at dksX0_least_0 8 rfl rfl)
theorem dX0_least_9 : decode cX0_least 9 = .ok (.aload_n 2, 1) := dk_44 (dk_at dksX0_least_0 9 rfl rfl)
theorem dX0_least_10 : decode cX0_least 10 = .ok (.invokevirtual 59, 3) := dk_182 0 59 (dk_at dksX0_least_0 10 rfl rfl)
theorem dX0_least_13 : decode cX0_least 13 = .ok (.ifCond .eq 7, 3) := dk_153 0 7 (dk_at dksX0_least_0 13 rfl rfl)
theorem dX0_least_16 : decode cX0_least 16 = .ok (.iconst (-1), 1) := dk_2 (dk_at dksX0_least_0 16 rfl rfl)
theorem dX0_least_17 : decode cX0_least 17 = .ok (.goto 13, 3) := dk_167 0 13 (dk_at dksX0_least_0 17 rfl rfl)
theorem dX0_least_20 : decode cX0_least 20 = .ok (.aload_n 2, 1) := dk_44 (dk_at dksX0_least_0 20 rfl rfl)
theorem dX0_least_21 : decode cX0_least 21 = .ok (.invokevirtual 63, 3) := dk_182 0 63 (dk_at dksX0_least_0 21 rfl rfl)
theorem dX0_least_24 : decode cX0_least 24 = .ok (.checkcast 17, 3) := dk_192 0 17 (dk_at dksX0_least_1 0 rfl rfl)
theorem dX0_least_27 : decode cX0_least 27 = .ok (.invokevirtual 19, 3) := dk_182 0 19 (dk_at dksX0_least_1 3 rfl rfl)
theorem dX0_least_30 : decode cX0_least 30 = .ok (.ireturn, 1) := dk_172 (dk_at dksX0_least_1 6 rfl rfl)
abbrev cX0_takeLeast : ByteArray := prog_5_method_8_code
def yX0_takeLeast : MethodName := ⟨RX0, "takeLeast", "(I)I"⟩
def dkwX0_takeLeast_1 : List UInt8 := [192, 0, 17, 182, 0, 19, 172]
abbrev dktX0_takeLeast_1 : List UInt8 := dkwX0_takeLeast_1 ++ []
def dkwX0_takeLeast_0 : List UInt8 := [42, 180, 0, 13, 27, 6, 126, 50, 77, 44, 182, 0, 59, 153, 0, 5, 2, 172, 44, 182, 0, 67]
abbrev dktX0_takeLeast_0 : List UInt8 := dkwX0_takeLeast_0 ++ dktX0_takeLeast_1
theorem dksX0_takeLeast_0 : cX0_takeLeast.data.toList.drop 0 = dktX0_takeLeast_0 := by decide +kernel
theorem dksX0_takeLeast_1 : cX0_takeLeast.data.toList.drop 22 = dktX0_takeLeast_1 := dk_seg dksX0_takeLeast_0 22 rfl rfl
theorem dX0_takeLeast_0 : decode cX0_takeLeast 0 = .ok (.aload_n 0, 1) := dk_42 (dk_at dksX0_takeLeast_0 0 rfl rfl)
theorem dX0_takeLeast_1 : decode cX0_takeLeast 1 = .ok (.getfield 13, 3) := dk_180 0 13 (dk_at dksX0_takeLeast_0 1 rfl rfl)
theorem dX0_takeLeast_4 : decode cX0_takeLeast 4 = .ok (.iload_n 1, 1) := dk_27 (dk_at dksX0_takeLeast_0 4 rfl rfl)
theorem dX0_takeLeast_5 : decode cX0_takeLeast 5 = .ok (.iconst 3, 1) := dk_6 (dk_at dksX0_takeLeast_0 5 rfl rfl)
theorem dX0_takeLeast_6 : decode cX0_takeLeast 6 = .ok (.iand, 1) := dk_126 (dk_at dksX0_takeLeast_0 6 rfl rfl)
theorem dX0_takeLeast_7 : decode cX0_takeLeast 7 = .ok (.aaload, 1) := dk_50 (dk_at dksX0_takeLeast_0 7 rfl rfl)
theorem dX0_takeLeast_8 : decode cX0_takeLeast 8 = .ok (.astore_n 2, 1) := dk_77 (dk_at dksX0_takeLeast_0 8 rfl rfl)
theorem dX0_takeLeast_9 : decode cX0_takeLeast 9 = .ok (.aload_n 2, 1) := dk_44 (dk_at dksX0_takeLeast_0 9 rfl rfl)
theorem dX0_takeLeast_10 : decode cX0_takeLeast 10 = .ok (.invokevirtual 59, 3) := dk_182 0 59 (dk_at dksX0_takeLeast_0 10 rfl rfl)
theorem dX0_takeLeast_13 : decode cX0_takeLeast 13 = .ok (.ifCond .eq 5, 3) := dk_153 0 5 (dk_at dksX0_takeLeast_0 13 rfl rfl)
theorem dX0_takeLeast_16 : decode cX0_takeLeast 16 = .ok (.iconst (-1), 1) := dk_2 (dk_at dksX0_takeLeast_0 16 rfl rfl)
theorem dX0_takeLeast_17 : decode cX0_takeLeast 17 = .ok (.ireturn, 1) := dk_172 (dk_at dksX0_takeLeast_0 17 rfl rfl)
theorem dX0_takeLeast_18 : decode cX0_takeLeast 18 = .ok (.aload_n 2, 1) := dk_44 (dk_at dksX0_takeLeast_0 18 rfl rfl)
theorem dX0_takeLeast_19 : decode cX0_takeLeast 19 = .ok (.invokevirtual 67, 3) := dk_182 0 67 (dk_at dksX0_takeLeast_0 19 rfl rfl)
theorem dX0_takeLeast_22 : decode cX0_takeLeast 22 = .ok (.checkcast 17, 3) := dk_192 0 17 (dk_at dksX0_takeLeast_1 0 rfl rfl)
theorem dX0_takeLeast_25 : decode cX0_takeLeast 25 = .ok (.invokevirtual 19, 3) := dk_182 0 19 (dk_at dksX0_takeLeast_1 3 rfl rfl)
theorem dX0_takeLeast_28 : decode cX0_takeLeast 28 = .ok (.ireturn, 1) := dk_172 (dk_at dksX0_takeLeast_1 6 rfl rfl)
abbrev cX0_size : ByteArray := prog_5_method_9_code
def yX0_size : MethodName := ⟨RX0, "size", "(I)I"⟩
def dkwX0_size_0 : List UInt8 := [42, 180, 0, 13, 27, 6, 126, 50, 182, 0, 70, 136, 172]
abbrev dktX0_size_0 : List UInt8 := dkwX0_size_0 ++ []
theorem dksX0_size_0 : cX0_size.data.toList.drop 0 = dktX0_size_0 := by decide +kernel
theorem dX0_size_0 : decode cX0_size 0 = .ok (.aload_n 0, 1) := dk_42 (dk_at dksX0_size_0 0 rfl rfl)
theorem dX0_size_1 : decode cX0_size 1 = .ok (.getfield 13, 3) := dk_180 0 13 (dk_at dksX0_size_0 1 rfl rfl)
theorem dX0_size_4 : decode cX0_size 4 = .ok (.iload_n 1, 1) := dk_27 (dk_at dksX0_size_0 4 rfl rfl)
theorem dX0_size_5 : decode cX0_size 5 = .ok (.iconst 3, 1) := dk_6 (dk_at dksX0_size_0 5 rfl rfl)
theorem dX0_size_6 : decode cX0_size 6 = .ok (.iand, 1) := dk_126 (dk_at dksX0_size_0 6 rfl rfl)
theorem dX0_size_7 : decode cX0_size 7 = .ok (.aaload, 1) := dk_50 (dk_at dksX0_size_0 7 rfl rfl)
theorem dX0_size_8 : decode cX0_size 8 = .ok (.invokevirtual 70, 3) := dk_182 0 70 (dk_at dksX0_size_0 8 rfl rfl)
theorem dX0_size_11 : decode cX0_size 11 = .ok (.l2i, 1) := dk_136 (dk_at dksX0_size_0 11 rfl rfl)
theorem dX0_size_12 : decode cX0_size 12 = .ok (.ireturn, 1) := dk_172 (dk_at dksX0_size_0 12 rfl rfl)
abbrev cX0_isEmpty : ByteArray := prog_5_method_10_code
def yX0_isEmpty : MethodName := ⟨RX0, "isEmpty", "(I)Z"⟩
def dkwX0_isEmpty_0 : List UInt8 := [42, 180, 0, 13, 27, 6, 126, 50, 182, 0, 59, 172]
abbrev dktX0_isEmpty_0 : List UInt8 := dkwX0_isEmpty_0 ++ []
theorem dksX0_isEmpty_0 : cX0_isEmpty.data.toList.drop 0 = dktX0_isEmpty_0 := by decide +kernel
theorem dX0_isEmpty_0 : decode cX0_isEmpty 0 = .ok (.aload_n 0, 1) := dk_42 (dk_at dksX0_isEmpty_0 0 rfl rfl)
theorem dX0_isEmpty_1 : decode cX0_isEmpty 1 = .ok (.getfield 13, 3) := dk_180 0 13 (dk_at dksX0_isEmpty_0 1 rfl rfl)
theorem dX0_isEmpty_4 : decode cX0_isEmpty 4 = .ok (.iload_n 1, 1) := dk_27 (dk_at dksX0_isEmpty_0 4 rfl rfl)
theorem dX0_isEmpty_5 : decode cX0_isEmpty 5 = .ok (.iconst 3, 1) := dk_6 (dk_at dksX0_isEmpty_0 5 rfl rfl)
theorem dX0_isEmpty_6 : decode cX0_isEmpty 6 = .ok (.iand, 1) := dk_126 (dk_at dksX0_isEmpty_0 6 rfl rfl)
theorem dX0_isEmpty_7 : decode cX0_isEmpty 7 = .ok (.aaload, 1) := dk_50 (dk_at dksX0_isEmpty_0 7 rfl rfl)
theorem dX0_isEmpty_8 : decode cX0_isEmpty 8 = .ok (.invokevirtual 59, 3) := dk_182 0 59 (dk_at dksX0_isEmpty_0 8 rfl rfl)
theorem dX0_isEmpty_11 : decode cX0_isEmpty 11 = .ok (.ireturn, 1) := dk_172 (dk_at dksX0_isEmpty_0 11 rfl rfl)
abbrev cX0_clear : ByteArray := prog_5_method_11_code
def yX0_clear : MethodName := ⟨RX0, "clear", "(I)V"⟩
def dkwX0_clear_0 : List UInt8 := [42, 180, 0, 13, 27, 6, 126, 50, 182, 0, 74, 177]
abbrev dktX0_clear_0 : List UInt8 := dkwX0_clear_0 ++ []
theorem dksX0_clear_0 : cX0_clear.data.toList.drop 0 = dktX0_clear_0 := by decide +kernel
theorem dX0_clear_0 : decode cX0_clear 0 = .ok (.aload_n 0, 1) := dk_42 (dk_at dksX0_clear_0 0 rfl rfl)
theorem dX0_clear_1 : decode cX0_clear 1 = .ok (.getfield 13, 3) := dk_180 0 13 (dk_at dksX0_clear_0 1 rfl rfl)
theorem dX0_clear_4 : decode cX0_clear 4 = .ok (.iload_n 1, 1) := dk_27 (dk_at dksX0_clear_0 4 rfl rfl)
theorem dX0_clear_5 : decode cX0_clear 5 = .ok (.iconst 3, 1) := dk_6 (dk_at dksX0_clear_0 5 rfl rfl)
theorem dX0_clear_6 : decode cX0_clear 6 = .ok (.iand, 1) := dk_126 (dk_at dksX0_clear_0 6 rfl rfl)
theorem dX0_clear_7 : decode cX0_clear 7 = .ok (.aaload, 1) := dk_50 (dk_at dksX0_clear_0 7 rfl rfl)
theorem dX0_clear_8 : decode cX0_clear 8 = .ok (.invokevirtual 74, 3) := dk_182 0 74 (dk_at dksX0_clear_0 8 rfl rfl)
theorem dX0_clear_11 : decode cX0_clear 11 = .ok (.return_, 1) := dk_177 (dk_at dksX0_clear_0 11 rfl rfl)
abbrev cX0_pour : ByteArray := prog_5_method_12_code
def yX0_pour : MethodName := ⟨RX0, "pour", "(II)I"⟩
def dkwX0_pour_2 : List UInt8 := [182, 0, 67, 192, 0, 17, 182, 0, 48, 132, 5, 1, 167, 255, 218, 21, 5, 172]
abbrev dktX0_pour_2 : List UInt8 := dkwX0_pour_2 ++ []
def dkwX0_pour_1 : List UInt8 := [21, 4, 50, 182, 0, 59, 154, 0, 31, 42, 180, 0, 13, 29, 50, 42, 180, 0, 13, 21, 4, 50]
abbrev dktX0_pour_1 : List UInt8 := dkwX0_pour_1 ++ dktX0_pour_2
def dkwX0_pour_0 : List UInt8 := [27, 6, 126, 62, 28, 6, 126, 54, 4, 3, 54, 5, 29, 21, 4, 160, 0, 5, 2, 172, 42, 180, 0, 13]
abbrev dktX0_pour_0 : List UInt8 := dkwX0_pour_0 ++ dktX0_pour_1
theorem dksX0_pour_0 : cX0_pour.data.toList.drop 0 = dktX0_pour_0 := by decide +kernel
theorem dksX0_pour_1 : cX0_pour.data.toList.drop 24 = dktX0_pour_1 := dk_seg dksX0_pour_0 24 rfl rfl
theorem dksX0_pour_2 : cX0_pour.data.toList.drop 46 = dktX0_pour_2 := dk_seg dksX0_pour_1 22 rfl rfl
theorem dX0_pour_0 : decode cX0_pour 0 = .ok (.iload_n 1, 1) := dk_27 (dk_at dksX0_pour_0 0 rfl rfl)
theorem dX0_pour_1 : decode cX0_pour 1 = .ok (.iconst 3, 1) := dk_6 (dk_at dksX0_pour_0 1 rfl rfl)
theorem dX0_pour_2 : decode cX0_pour 2 = .ok (.iand, 1) := dk_126 (dk_at dksX0_pour_0 2 rfl rfl)
theorem dX0_pour_3 : decode cX0_pour 3 = .ok (.istore_n 3, 1) := dk_62 (dk_at dksX0_pour_0 3 rfl rfl)
theorem dX0_pour_4 : decode cX0_pour 4 = .ok (.iload_n 2, 1) := dk_28 (dk_at dksX0_pour_0 4 rfl rfl)
theorem dX0_pour_5 : decode cX0_pour 5 = .ok (.iconst 3, 1) := dk_6 (dk_at dksX0_pour_0 5 rfl rfl)
theorem dX0_pour_6 : decode cX0_pour 6 = .ok (.iand, 1) := dk_126 (dk_at dksX0_pour_0 6 rfl rfl)
theorem dX0_pour_7 : decode cX0_pour 7 = .ok (.istore 4, 2) := dk_54 4 (dk_at dksX0_pour_0 7 rfl rfl)
theorem dX0_pour_9 : decode cX0_pour 9 = .ok (.iconst 0, 1) := dk_3 (dk_at dksX0_pour_0 9 rfl rfl)
theorem dX0_pour_10 : decode cX0_pour 10 = .ok (.istore 5, 2) := dk_54 5 (dk_at dksX0_pour_0 10 rfl rfl)
theorem dX0_pour_12 : decode cX0_pour 12 = .ok (.iload_n 3, 1) := dk_29 (dk_at dksX0_pour_0 12 rfl rfl)
theorem dX0_pour_13 : decode cX0_pour 13 = .ok (.iload 4, 2) := dk_21 4 (dk_at dksX0_pour_0 13 rfl rfl)
theorem dX0_pour_15 : decode cX0_pour 15 = .ok (.if_icmp .ne 5, 3) := dk_160 0 5 (dk_at dksX0_pour_0 15 rfl rfl)
theorem dX0_pour_18 : decode cX0_pour 18 = .ok (.iconst (-1), 1) := dk_2 (dk_at dksX0_pour_0 18 rfl rfl)
theorem dX0_pour_19 : decode cX0_pour 19 = .ok (.ireturn, 1) := dk_172 (dk_at dksX0_pour_0 19 rfl rfl)
theorem dX0_pour_20 : decode cX0_pour 20 = .ok (.aload_n 0, 1) := dk_42 (dk_at dksX0_pour_0 20 rfl rfl)
theorem dX0_pour_21 : decode cX0_pour 21 = .ok (.getfield 13, 3) := dk_180 0 13 (dk_at dksX0_pour_0 21 rfl rfl)
theorem dX0_pour_24 : decode cX0_pour 24 = .ok (.iload 4, 2) := dk_21 4 (dk_at dksX0_pour_1 0 rfl rfl)
theorem dX0_pour_26 : decode cX0_pour 26 = .ok (.aaload, 1) := dk_50 (dk_at dksX0_pour_1 2 rfl rfl)
theorem dX0_pour_27 : decode cX0_pour 27 = .ok (.invokevirtual 59, 3) := dk_182 0 59 (dk_at dksX0_pour_1 3 rfl rfl)
theorem dX0_pour_30 : decode cX0_pour 30 = .ok (.ifCond .ne 31, 3) := dk_154 0 31 (dk_at dksX0_pour_1 6 rfl rfl)
theorem dX0_pour_33 : decode cX0_pour 33 = .ok (.aload_n 0, 1) := dk_42 (dk_at dksX0_pour_1 9 rfl rfl)
theorem dX0_pour_34 : decode cX0_pour 34 = .ok (.getfield 13, 3) := dk_180 0 13 (dk_at dksX0_pour_1 10 rfl rfl)
theorem dX0_pour_37 : decode cX0_pour 37 = .ok (.iload_n 3, 1) := dk_29 (dk_at dksX0_pour_1 13 rfl rfl)
theorem dX0_pour_38 : decode cX0_pour 38 = .ok (.aaload, 1) := dk_50 (dk_at dksX0_pour_1 14 rfl rfl)
theorem dX0_pour_39 : decode cX0_pour 39 = .ok (.aload_n 0, 1) := dk_42 (dk_at dksX0_pour_1 15 rfl rfl)
theorem dX0_pour_40 : decode cX0_pour 40 = .ok (.getfield 13, 3) := dk_180 0 13 (dk_at dksX0_pour_1 16 rfl rfl)
theorem dX0_pour_43 : decode cX0_pour 43 = .ok (.iload 4, 2) := dk_21 4 (dk_at dksX0_pour_1 19 rfl rfl)
theorem dX0_pour_45 : decode cX0_pour 45 = .ok (.aaload, 1) := dk_50 (dk_at dksX0_pour_1 21 rfl rfl)
theorem dX0_pour_46 : decode cX0_pour 46 = .ok (.invokevirtual 67, 3) := dk_182 0 67 (dk_at dksX0_pour_2 0 rfl rfl)
theorem dX0_pour_49 : decode cX0_pour 49 = .ok (.checkcast 17, 3) := dk_192 0 17 (dk_at dksX0_pour_2 3 rfl rfl)
theorem dX0_pour_52 : decode cX0_pour 52 = .ok (.invokevirtual 48, 3) := dk_182 0 48 (dk_at dksX0_pour_2 6 rfl rfl)
theorem dX0_pour_55 : decode cX0_pour 55 = .ok (.iinc 5 1, 3) := dk_132 5 1 (dk_at dksX0_pour_2 9 rfl rfl)
theorem dX0_pour_58 : decode cX0_pour 58 = .ok (.goto (-38), 3) := dk_167 255 218 (dk_at dksX0_pour_2 12 rfl rfl)
theorem dX0_pour_61 : decode cX0_pour 61 = .ok (.iload 5, 2) := dk_21 5 (dk_at dksX0_pour_2 15 rfl rfl)
theorem dX0_pour_63 : decode cX0_pour 63 = .ok (.ireturn, 1) := dk_172 (dk_at dksX0_pour_2 17 rfl rfl)
theorem q4 : (Jvm.Cond.initialized "DaryArrayHeapDesk") ∈ lw_all := lw_g (lw_at lw_m1 1 rfl) rfl
theorem q21 : (Jvm.Cond.instantiable "DaryArrayHeapDesk" (2 : Nat)) ∈ lw_all := lw_g (lw_at lw_m1 18 rfl) rfl
theorem q23 : (Jvm.Cond.instanceMethod ({ cls := "DaryArrayHeapDesk", name := "<init>", desc := "()V" } : Jvm.MethodName)) ∈ lw_all := lw_g (lw_at lw_m1 20 rfl) rfl
theorem q24 : (Jvm.Cond.code ({ cls := "DaryArrayHeapDesk", name := "<init>", desc := "()V" } : Jvm.MethodName) prog_5_method_1_code (1 : Nat) (Option.none : Option Jvm.ClassFile.FieldType)) ∈ lw_all := lw_g (lw_at lw_m1 21 rfl) rfl
theorem q25 : (Jvm.Cond.methodLink "DaryArrayHeapDesk" (1 : Nat) ({ cls := "java/lang/Object", name := "<init>", desc := "()V" } : Jvm.MethodName)) ∈ lw_all := lw_g (lw_at lw_m1 22 rfl) rfl
theorem q28 : (Jvm.Cond.methodLink "DaryArrayHeapDesk" (7 : Nat) ({ cls := "DaryArrayHeapDesk", name := "make", desc := "()[LDaryArrayHeap;" } : Jvm.MethodName)) ∈ lw_all := lw_g (lw_at lw_m1 25 rfl) rfl
theorem q29 : (Jvm.Cond.static ({ cls := "DaryArrayHeapDesk", name := "make", desc := "()[LDaryArrayHeap;" } : Jvm.MethodName)) ∈ lw_all := lw_g (lw_at lw_m1 26 rfl) rfl
theorem q30 : (Jvm.Cond.code ({ cls := "DaryArrayHeapDesk", name := "make", desc := "()[LDaryArrayHeap;" } : Jvm.MethodName) prog_5_method_3_code (2 : Nat) (Option.some (Jvm.ClassFile.FieldType.array (Jvm.ClassFile.FieldType.object "DaryArrayHeap")))) ∈ lw_all := lw_g (lw_at lw_m1 27 rfl) rfl
theorem q31 : (Jvm.Cond.classLink "DaryArrayHeapDesk" (23 : Nat) "DaryArrayHeap") ∈ lw_all := lw_g (lw_at lw_m1 28 rfl) rfl
theorem q33 : (Jvm.Cond.methodLink "DaryArrayHeapDesk" (25 : Nat) ({ cls := "DaryArrayHeapDesk", name := "fresh", desc := "(I)LDaryArrayHeap;" } : Jvm.MethodName)) ∈ lw_all := lw_g (lw_at lw_m1 30 rfl) rfl
theorem q34 : (Jvm.Cond.static ({ cls := "DaryArrayHeapDesk", name := "fresh", desc := "(I)LDaryArrayHeap;" } : Jvm.MethodName)) ∈ lw_all := lw_g (lw_at lw_m1 31 rfl) rfl
theorem q35 : (Jvm.Cond.code ({ cls := "DaryArrayHeapDesk", name := "fresh", desc := "(I)LDaryArrayHeap;" } : Jvm.MethodName) prog_5_method_4_code (1 : Nat) (Option.some (Jvm.ClassFile.FieldType.object "DaryArrayHeap"))) ∈ lw_all := lw_g (lw_at lw_m1 32 rfl) rfl
theorem q37 : (Jvm.Cond.methodLink "DaryArrayHeapDesk" (29 : Nat) ({ cls := "DaryArrayHeap", name := "<init>", desc := "(I)V" } : Jvm.MethodName)) ∈ lw_all := lw_g (lw_at lw_m1 34 rfl) rfl
theorem q181 : (Jvm.Cond.fieldLink "DaryArrayHeapDesk" (32 : Nat) "DaryArrayHeapDesk" "DOWN" "LDaryArrayHeapDesk$Down;") ∈ lw_all := lw_g (lw_at lw_m1 178 rfl) rfl
theorem q182 : (Jvm.Cond.laysStatic "DaryArrayHeapDesk" "DOWN" "LDaryArrayHeapDesk$Down;") ∈ lw_tbl := lw_at lw_m1 179 rfl
theorem q183 : (Jvm.Cond.methodLink "DaryArrayHeapDesk" (36 : Nat) ({ cls := "DaryArrayHeap", name := "<init>", desc := "(ILjava/util/Comparator;)V" } : Jvm.MethodName)) ∈ lw_all := lw_g (lw_at lw_m1 180 rfl) rfl
theorem q186 : (Jvm.Cond.fieldLink "DaryArrayHeapDesk" (13 : Nat) "DaryArrayHeapDesk" "file" "[LDaryArrayHeap;") ∈ lw_all := lw_g (lw_at lw_m1 183 rfl) rfl
theorem q187 : (Jvm.Cond.fieldLink "DaryArrayHeapDesk" (39 : Nat) "DaryArrayHeapDesk" "puts" "I") ∈ lw_all := lw_g (lw_at lw_m1 184 rfl) rfl
theorem q188 : (Jvm.Cond.laysFinal "DaryArrayHeapDesk" "DaryArrayHeapDesk" "file" "[LDaryArrayHeap;") ∈ lw_all := lw_g (lw_at lw_m1 185 rfl) rfl
theorem q189 : (Jvm.Cond.soleField "DaryArrayHeapDesk" "file") ∈ lw_all := lw_g (lw_at lw_m1 186 rfl) rfl
theorem q190 : (Jvm.Cond.lays "DaryArrayHeapDesk" "DaryArrayHeapDesk" "puts" "I") ∈ lw_all := lw_g (lw_at lw_m1 187 rfl) rfl
theorem q191 : (Jvm.Cond.soleField "DaryArrayHeapDesk" "puts") ∈ lw_all := lw_g (lw_at lw_m1 188 rfl) rfl
theorem q192 : (Jvm.Cond.superclass "DaryArrayHeapDesk" "java/lang/Object") ∈ lw_all := lw_g (lw_at lw_m1 189 rfl) rfl
theorem q194 : (Jvm.Cond.instanceMethod ({ cls := "DaryArrayHeapDesk", name := "put", desc := "(II)Z" } : Jvm.MethodName)) ∈ lw_all := lw_g (lw_at lw_m1 191 rfl) rfl
theorem q195 : (Jvm.Cond.selects "DaryArrayHeapDesk" ({ cls := "DaryArrayHeapDesk", name := "put", desc := "(II)Z" } : Jvm.MethodName) ({ cls := "DaryArrayHeapDesk", name := "put", desc := "(II)Z" } : Jvm.MethodName)) ∈ lw_all := lw_g (lw_at lw_m1 192 rfl) rfl
theorem q196 : (Jvm.Cond.code ({ cls := "DaryArrayHeapDesk", name := "put", desc := "(II)Z" } : Jvm.MethodName) prog_5_method_5_code (3 : Nat) (Option.some Jvm.ClassFile.FieldType.boolean)) ∈ lw_all := lw_g (lw_at lw_m1 193 rfl) rfl
theorem q197 : (Jvm.Cond.constant "DaryArrayHeapDesk" (43 : Nat) (65535 : Int32)) ∈ lw_all := lw_g (lw_at lw_m1 194 rfl) rfl
theorem q198 : (Jvm.Cond.methodLink "DaryArrayHeapDesk" (44 : Nat) ({ cls := "java/lang/Integer", name := "valueOf", desc := "(I)Ljava/lang/Integer;" } : Jvm.MethodName)) ∈ lw_all := lw_g (lw_at lw_m1 195 rfl) rfl
theorem q218 : (Jvm.Cond.methodLink "DaryArrayHeapDesk" (48 : Nat) ({ cls := "DaryArrayHeap", name := "insert", desc := "(Ljava/lang/Object;)V" } : Jvm.MethodName)) ∈ lw_all := lw_g (lw_at lw_m1 215 rfl) rfl
theorem q264 : (Jvm.Cond.static ({ cls := "DaryArrayHeapDesk", name := "order", desc := "(Ljava/lang/Object;Ljava/lang/Object;)I" } : Jvm.MethodName)) ∈ lw_all := lw_g (lw_at lw_m2 21 rfl) rfl
theorem q265 : (Jvm.Cond.code ({ cls := "DaryArrayHeapDesk", name := "order", desc := "(Ljava/lang/Object;Ljava/lang/Object;)I" } : Jvm.MethodName) prog_5_method_2_code (4 : Nat) (Option.some Jvm.ClassFile.FieldType.int)) ∈ lw_all := lw_g (lw_at lw_m2 22 rfl) rfl
theorem q266 : (Jvm.Cond.classLink "DaryArrayHeapDesk" (17 : Nat) "java/lang/Integer") ∈ lw_all := lw_g (lw_at lw_m2 23 rfl) rfl
theorem q267 : (Jvm.Cond.methodLink "DaryArrayHeapDesk" (19 : Nat) ({ cls := "java/lang/Integer", name := "intValue", desc := "()I" } : Jvm.MethodName)) ∈ lw_all := lw_g (lw_at lw_m2 24 rfl) rfl
theorem q294 : (Jvm.Cond.instanceMethod ({ cls := "DaryArrayHeapDesk", name := "four", desc := "(IIIII)Z" } : Jvm.MethodName)) ∈ lw_all := lw_g (lw_at lw_m2 51 rfl) rfl
theorem q295 : (Jvm.Cond.selects "DaryArrayHeapDesk" ({ cls := "DaryArrayHeapDesk", name := "four", desc := "(IIIII)Z" } : Jvm.MethodName) ({ cls := "DaryArrayHeapDesk", name := "four", desc := "(IIIII)Z" } : Jvm.MethodName)) ∈ lw_all := lw_g (lw_at lw_m2 52 rfl) rfl
theorem q296 : (Jvm.Cond.code ({ cls := "DaryArrayHeapDesk", name := "four", desc := "(IIIII)Z" } : Jvm.MethodName) prog_5_method_6_code (8 : Nat) (Option.some Jvm.ClassFile.FieldType.boolean)) ∈ lw_all := lw_g (lw_at lw_m2 53 rfl) rfl
theorem q298 : (Jvm.Cond.methodLink "DaryArrayHeapDesk" (52 : Nat) ({ cls := "DaryArrayHeap", name := "heapify", desc := "(I[Ljava/lang/Object;)LDaryArrayHeap;" } : Jvm.MethodName)) ∈ lw_all := lw_g (lw_at lw_m2 55 rfl) rfl
theorem q311 : (Jvm.Cond.methodLink "DaryArrayHeapDesk" (56 : Nat) ({ cls := "DaryArrayHeap", name := "heapify", desc := "(I[Ljava/lang/Object;Ljava/util/Comparator;)LDaryArrayHeap;" } : Jvm.MethodName)) ∈ lw_all := lw_g (lw_at lw_m2 68 rfl) rfl
theorem q320 : (Jvm.Cond.instanceMethod ({ cls := "DaryArrayHeapDesk", name := "least", desc := "(I)I" } : Jvm.MethodName)) ∈ lw_all := lw_g (lw_at lw_m2 77 rfl) rfl
theorem q321 : (Jvm.Cond.selects "DaryArrayHeapDesk" ({ cls := "DaryArrayHeapDesk", name := "least", desc := "(I)I" } : Jvm.MethodName) ({ cls := "DaryArrayHeapDesk", name := "least", desc := "(I)I" } : Jvm.MethodName)) ∈ lw_all := lw_g (lw_at lw_m2 78 rfl) rfl
theorem q322 : (Jvm.Cond.code ({ cls := "DaryArrayHeapDesk", name := "least", desc := "(I)I" } : Jvm.MethodName) prog_5_method_7_code (3 : Nat) (Option.some Jvm.ClassFile.FieldType.int)) ∈ lw_all := lw_g (lw_at lw_m2 79 rfl) rfl
theorem q323 : (Jvm.Cond.methodLink "DaryArrayHeapDesk" (59 : Nat) ({ cls := "DaryArrayHeap", name := "isEmpty", desc := "()Z" } : Jvm.MethodName)) ∈ lw_all := lw_g (lw_at lw_m2 80 rfl) rfl
theorem q329 : (Jvm.Cond.methodLink "DaryArrayHeapDesk" (63 : Nat) ({ cls := "DaryArrayHeap", name := "findMin", desc := "()Ljava/lang/Object;" } : Jvm.MethodName)) ∈ lw_all := lw_g (lw_at lw_m2 86 rfl) rfl
theorem q357 : (Jvm.Cond.instanceMethod ({ cls := "DaryArrayHeapDesk", name := "takeLeast", desc := "(I)I" } : Jvm.MethodName)) ∈ lw_all := lw_g (lw_at lw_m2 114 rfl) rfl
theorem q358 : (Jvm.Cond.selects "DaryArrayHeapDesk" ({ cls := "DaryArrayHeapDesk", name := "takeLeast", desc := "(I)I" } : Jvm.MethodName) ({ cls := "DaryArrayHeapDesk", name := "takeLeast", desc := "(I)I" } : Jvm.MethodName)) ∈ lw_all := lw_g (lw_at lw_m2 115 rfl) rfl
theorem q359 : (Jvm.Cond.code ({ cls := "DaryArrayHeapDesk", name := "takeLeast", desc := "(I)I" } : Jvm.MethodName) prog_5_method_8_code (3 : Nat) (Option.some Jvm.ClassFile.FieldType.int)) ∈ lw_all := lw_g (lw_at lw_m2 116 rfl) rfl
theorem q360 : (Jvm.Cond.methodLink "DaryArrayHeapDesk" (67 : Nat) ({ cls := "DaryArrayHeap", name := "deleteMin", desc := "()Ljava/lang/Object;" } : Jvm.MethodName)) ∈ lw_all := lw_g (lw_at lw_m2 117 rfl) rfl
theorem q375 : (Jvm.Cond.instanceMethod ({ cls := "DaryArrayHeapDesk", name := "size", desc := "(I)I" } : Jvm.MethodName)) ∈ lw_all := lw_g (lw_at lw_m2 132 rfl) rfl
theorem q376 : (Jvm.Cond.selects "DaryArrayHeapDesk" ({ cls := "DaryArrayHeapDesk", name := "size", desc := "(I)I" } : Jvm.MethodName) ({ cls := "DaryArrayHeapDesk", name := "size", desc := "(I)I" } : Jvm.MethodName)) ∈ lw_all := lw_g (lw_at lw_m2 133 rfl) rfl
theorem q377 : (Jvm.Cond.code ({ cls := "DaryArrayHeapDesk", name := "size", desc := "(I)I" } : Jvm.MethodName) prog_5_method_9_code (2 : Nat) (Option.some Jvm.ClassFile.FieldType.int)) ∈ lw_all := lw_g (lw_at lw_m2 134 rfl) rfl
theorem q378 : (Jvm.Cond.methodLink "DaryArrayHeapDesk" (70 : Nat) ({ cls := "DaryArrayHeap", name := "size", desc := "()J" } : Jvm.MethodName)) ∈ lw_all := lw_g (lw_at lw_m2 135 rfl) rfl
theorem q385 : (Jvm.Cond.instanceMethod ({ cls := "DaryArrayHeapDesk", name := "isEmpty", desc := "(I)Z" } : Jvm.MethodName)) ∈ lw_all := lw_g (lw_at lw_m2 142 rfl) rfl
theorem q386 : (Jvm.Cond.selects "DaryArrayHeapDesk" ({ cls := "DaryArrayHeapDesk", name := "isEmpty", desc := "(I)Z" } : Jvm.MethodName) ({ cls := "DaryArrayHeapDesk", name := "isEmpty", desc := "(I)Z" } : Jvm.MethodName)) ∈ lw_all := lw_g (lw_at lw_m2 143 rfl) rfl
theorem q387 : (Jvm.Cond.code ({ cls := "DaryArrayHeapDesk", name := "isEmpty", desc := "(I)Z" } : Jvm.MethodName) prog_5_method_10_code (2 : Nat) (Option.some Jvm.ClassFile.FieldType.boolean)) ∈ lw_all := lw_g (lw_at lw_m2 144 rfl) rfl
theorem q389 : (Jvm.Cond.instanceMethod ({ cls := "DaryArrayHeapDesk", name := "clear", desc := "(I)V" } : Jvm.MethodName)) ∈ lw_all := lw_g (lw_at lw_m2 146 rfl) rfl
theorem q390 : (Jvm.Cond.selects "DaryArrayHeapDesk" ({ cls := "DaryArrayHeapDesk", name := "clear", desc := "(I)V" } : Jvm.MethodName) ({ cls := "DaryArrayHeapDesk", name := "clear", desc := "(I)V" } : Jvm.MethodName)) ∈ lw_all := lw_g (lw_at lw_m2 147 rfl) rfl
theorem q391 : (Jvm.Cond.code ({ cls := "DaryArrayHeapDesk", name := "clear", desc := "(I)V" } : Jvm.MethodName) prog_5_method_11_code (2 : Nat) (Option.none : Option Jvm.ClassFile.FieldType)) ∈ lw_all := lw_g (lw_at lw_m2 148 rfl) rfl
theorem q392 : (Jvm.Cond.methodLink "DaryArrayHeapDesk" (74 : Nat) ({ cls := "DaryArrayHeap", name := "clear", desc := "()V" } : Jvm.MethodName)) ∈ lw_all := lw_g (lw_at lw_m2 149 rfl) rfl
theorem q399 : (Jvm.Cond.instanceMethod ({ cls := "DaryArrayHeapDesk", name := "pour", desc := "(II)I" } : Jvm.MethodName)) ∈ lw_all := lw_g (lw_at lw_m2 156 rfl) rfl
theorem q400 : (Jvm.Cond.selects "DaryArrayHeapDesk" ({ cls := "DaryArrayHeapDesk", name := "pour", desc := "(II)I" } : Jvm.MethodName) ({ cls := "DaryArrayHeapDesk", name := "pour", desc := "(II)I" } : Jvm.MethodName)) ∈ lw_all := lw_g (lw_at lw_m2 157 rfl) rfl
theorem q401 : (Jvm.Cond.code ({ cls := "DaryArrayHeapDesk", name := "pour", desc := "(II)I" } : Jvm.MethodName) prog_5_method_12_code (6 : Nat) (Option.some Jvm.ClassFile.FieldType.int)) ∈ lw_all := lw_g (lw_at lw_m2 158 rfl) rfl
theorem q463 : (Jvm.Cond.castable "DaryArrayHeapDesk" "java/lang/Object") ∈ lw_tbl := lw_at lw_m2 220 rfl
theorem in_X0 : ∀ w ∈ wsX00, w ∈ lw_all := lw_in wsX00 [188, 190] (by decide +kernel) (by decide +kernel)
/-! DaryArrayHeapDesk$Down -/
set_option maxRecDepth 100000
def RX5 : String := "DaryArrayHeapDesk$Down"
abbrev cX5_compare : ByteArray := prog_6_method_5_code
def yX5_compare : MethodName := ⟨RX5, "compare", "(Ljava/lang/Object;Ljava/lang/Object;)I"⟩
def dkwX5_compare_0 : List UInt8 := [42, 43, 192, 0, 8, 44, 192, 0, 8, 182, 0, 15, 172]
abbrev dktX5_compare_0 : List UInt8 := dkwX5_compare_0 ++ []
theorem dksX5_compare_0 : cX5_compare.data.toList.drop 0 = dktX5_compare_0 := by decide +kernel
theorem dX5_compare_0 : decode cX5_compare 0 = .ok (.aload_n 0, 1) := dk_42 (dk_at dksX5_compare_0 0 rfl rfl)
theorem dX5_compare_1 : decode cX5_compare 1 = .ok (.aload_n 1, 1) := dk_43 (dk_at dksX5_compare_0 1 rfl rfl)
theorem dX5_compare_2 : decode cX5_compare 2 = .ok (.checkcast 8, 3) := dk_192 0 8 (dk_at dksX5_compare_0 2 rfl rfl)
theorem dX5_compare_5 : decode cX5_compare 5 = .ok (.aload_n 2, 1) := dk_44 (dk_at dksX5_compare_0 5 rfl rfl)
theorem dX5_compare_6 : decode cX5_compare 6 = .ok (.checkcast 8, 3) := dk_192 0 8 (dk_at dksX5_compare_0 6 rfl rfl)
theorem dX5_compare_9 : decode cX5_compare 9 = .ok (.invokevirtual 15, 3) := dk_182 0 15 (dk_at dksX5_compare_0 9 rfl rfl)
theorem dX5_compare_12 : decode cX5_compare 12 = .ok (.ireturn, 1) := dk_172 (dk_at dksX5_compare_0 12 rfl rfl)
abbrev cX5_compare_2 : ByteArray := prog_6_method_2_code
def yX5_compare_2 : MethodName := ⟨RX5, "compare", "(Ljava/lang/Integer;Ljava/lang/Integer;)I"⟩
def dkwX5_compare_2_1 : List UInt8 := [164, 0, 7, 2, 167, 0, 4, 3, 172]
abbrev dktX5_compare_2_1 : List UInt8 := dkwX5_compare_2_1 ++ []
def dkwX5_compare_2_0 : List UInt8 := [43, 182, 0, 7, 62, 44, 182, 0, 7, 54, 4, 29, 21, 4, 162, 0, 7, 4, 167, 0, 14, 29, 21, 4]
abbrev dktX5_compare_2_0 : List UInt8 := dkwX5_compare_2_0 ++ dktX5_compare_2_1
theorem dksX5_compare_2_0 : cX5_compare_2.data.toList.drop 0 = dktX5_compare_2_0 := by decide +kernel
theorem dksX5_compare_2_1 : cX5_compare_2.data.toList.drop 24 = dktX5_compare_2_1 := dk_seg dksX5_compare_2_0 24 rfl rfl
theorem dX5_compare_2_0 : decode cX5_compare_2 0 = .ok (.aload_n 1, 1) := dk_43 (dk_at dksX5_compare_2_0 0 rfl rfl)
theorem dX5_compare_2_1 : decode cX5_compare_2 1 = .ok (.invokevirtual 7, 3) := dk_182 0 7 (dk_at dksX5_compare_2_0 1 rfl rfl)
theorem dX5_compare_2_4 : decode cX5_compare_2 4 = .ok (.istore_n 3, 1) := dk_62 (dk_at dksX5_compare_2_0 4 rfl rfl)
theorem dX5_compare_2_5 : decode cX5_compare_2 5 = .ok (.aload_n 2, 1) := dk_44 (dk_at dksX5_compare_2_0 5 rfl rfl)
theorem dX5_compare_2_6 : decode cX5_compare_2 6 = .ok (.invokevirtual 7, 3) := dk_182 0 7 (dk_at dksX5_compare_2_0 6 rfl rfl)
theorem dX5_compare_2_9 : decode cX5_compare_2 9 = .ok (.istore 4, 2) := dk_54 4 (dk_at dksX5_compare_2_0 9 rfl rfl)
theorem dX5_compare_2_11 : decode cX5_compare_2 11 = .ok (.iload_n 3, 1) := dk_29 (dk_at dksX5_compare_2_0 11 rfl rfl)
theorem dX5_compare_2_12 : decode cX5_compare_2 12 = .ok (.iload 4, 2) := dk_21 4 (dk_at dksX5_compare_2_0 12 rfl rfl)
theorem dX5_compare_2_14 : decode cX5_compare_2 14 = .ok (.if_icmp .ge 7, 3) := dk_162 0 7 (dk_at dksX5_compare_2_0 14 rfl rfl)
theorem dX5_compare_2_17 : decode cX5_compare_2 17 = .ok (.iconst 1, 1) := dk_4 (dk_at dksX5_compare_2_0 17 rfl rfl)
theorem dX5_compare_2_18 : decode cX5_compare_2 18 = .ok (.goto 14, 3) := dk_167 0 14 (dk_at dksX5_compare_2_0 18 rfl rfl)
theorem dX5_compare_2_21 : decode cX5_compare_2 21 = .ok (.iload_n 3, 1) := dk_29 (dk_at dksX5_compare_2_0 21 rfl rfl)
theorem dX5_compare_2_22 : decode cX5_compare_2 22 = .ok (.iload 4, 2) := dk_21 4 (dk_at dksX5_compare_2_0 22 rfl rfl)
theorem dX5_compare_2_24 : decode cX5_compare_2 24 = .ok (.if_icmp .le 7, 3) := dk_164 0 7 (dk_at dksX5_compare_2_1 0 rfl rfl)
theorem dX5_compare_2_27 : decode cX5_compare_2 27 = .ok (.iconst (-1), 1) := dk_2 (dk_at dksX5_compare_2_1 3 rfl rfl)
theorem dX5_compare_2_28 : decode cX5_compare_2 28 = .ok (.goto 4, 3) := dk_167 0 4 (dk_at dksX5_compare_2_1 4 rfl rfl)
theorem dX5_compare_2_31 : decode cX5_compare_2 31 = .ok (.iconst 0, 1) := dk_3 (dk_at dksX5_compare_2_1 7 rfl rfl)
theorem dX5_compare_2_32 : decode cX5_compare_2 32 = .ok (.ireturn, 1) := dk_172 (dk_at dksX5_compare_2_1 8 rfl rfl)
theorem q281 : (Jvm.Cond.castable "DaryArrayHeapDesk$Down" "java/util/Comparator") ∈ lw_tbl := lw_at lw_m2 38 rfl
theorem q282 : (Jvm.Cond.selects "DaryArrayHeapDesk$Down" ({ cls := "java/util/Comparator", name := "compare", desc := "(Ljava/lang/Object;Ljava/lang/Object;)I" } : Jvm.MethodName) ({ cls := "DaryArrayHeapDesk$Down", name := "compare", desc := "(Ljava/lang/Object;Ljava/lang/Object;)I" } : Jvm.MethodName)) ∈ lw_all := lw_g (lw_at lw_m2 39 rfl) rfl
theorem q283 : (Jvm.Cond.unhidden "DaryArrayHeapDesk$Down" "compare" "(Ljava/lang/Object;Ljava/lang/Object;)I") ∈ lw_tbl := lw_at lw_m2 40 rfl
theorem q284 : (Jvm.Cond.instanceMethod ({ cls := "DaryArrayHeapDesk$Down", name := "compare", desc := "(Ljava/lang/Object;Ljava/lang/Object;)I" } : Jvm.MethodName)) ∈ lw_all := lw_g (lw_at lw_m2 41 rfl) rfl
theorem q285 : (Jvm.Cond.publicMethod ({ cls := "DaryArrayHeapDesk$Down", name := "compare", desc := "(Ljava/lang/Object;Ljava/lang/Object;)I" } : Jvm.MethodName)) ∈ lw_tbl := lw_at lw_m2 42 rfl
theorem q286 : (Jvm.Cond.code ({ cls := "DaryArrayHeapDesk$Down", name := "compare", desc := "(Ljava/lang/Object;Ljava/lang/Object;)I" } : Jvm.MethodName) prog_6_method_5_code (3 : Nat) (Option.some Jvm.ClassFile.FieldType.int)) ∈ lw_all := lw_g (lw_at lw_m2 43 rfl) rfl
theorem q287 : (Jvm.Cond.classLink "DaryArrayHeapDesk$Down" (8 : Nat) "java/lang/Integer") ∈ lw_all := lw_g (lw_at lw_m2 44 rfl) rfl
theorem q288 : (Jvm.Cond.methodLink "DaryArrayHeapDesk$Down" (15 : Nat) ({ cls := "DaryArrayHeapDesk$Down", name := "compare", desc := "(Ljava/lang/Integer;Ljava/lang/Integer;)I" } : Jvm.MethodName)) ∈ lw_all := lw_g (lw_at lw_m2 45 rfl) rfl
theorem q289 : (Jvm.Cond.instanceMethod ({ cls := "DaryArrayHeapDesk$Down", name := "compare", desc := "(Ljava/lang/Integer;Ljava/lang/Integer;)I" } : Jvm.MethodName)) ∈ lw_all := lw_g (lw_at lw_m2 46 rfl) rfl
theorem q290 : (Jvm.Cond.selects "DaryArrayHeapDesk$Down" ({ cls := "DaryArrayHeapDesk$Down", name := "compare", desc := "(Ljava/lang/Integer;Ljava/lang/Integer;)I" } : Jvm.MethodName) ({ cls := "DaryArrayHeapDesk$Down", name := "compare", desc := "(Ljava/lang/Integer;Ljava/lang/Integer;)I" } : Jvm.MethodName)) ∈ lw_all := lw_g (lw_at lw_m2 47 rfl) rfl
theorem q291 : (Jvm.Cond.code ({ cls := "DaryArrayHeapDesk$Down", name := "compare", desc := "(Ljava/lang/Integer;Ljava/lang/Integer;)I" } : Jvm.MethodName) prog_6_method_2_code (5 : Nat) (Option.some Jvm.ClassFile.FieldType.int)) ∈ lw_all := lw_g (lw_at lw_m2 48 rfl) rfl
theorem q292 : (Jvm.Cond.methodLink "DaryArrayHeapDesk$Down" (7 : Nat) ({ cls := "java/lang/Integer", name := "intValue", desc := "()I" } : Jvm.MethodName)) ∈ lw_all := lw_g (lw_at lw_m2 49 rfl) rfl
theorem q460 : (Jvm.Cond.initialized "DaryArrayHeapDesk$Down") ∈ lw_all := lw_g (lw_at lw_m2 217 rfl) rfl
theorem q466 : (Jvm.Cond.castable "DaryArrayHeapDesk$Down" "java/lang/Object") ∈ lw_tbl := lw_at lw_m2 223 rfl
/-! java/lang/Math -/
set_option maxRecDepth 100000
def RJ4 : String := "java/lang/Math"
abbrev cJ4_max : ByteArray := prog_15_method_65_code
def yJ4_max : MethodName := ⟨RJ4, "max", "(II)I"⟩
def dkwJ4_max_0 : List UInt8 := [26, 27, 161, 0, 7, 26, 167, 0, 4, 27, 172]
abbrev dktJ4_max_0 : List UInt8 := dkwJ4_max_0 ++ []
theorem dksJ4_max_0 : cJ4_max.data.toList.drop 0 = dktJ4_max_0 := by decide +kernel
theorem dJ4_max_0 : decode cJ4_max 0 = .ok (.iload_n 0, 1) := dk_26 (dk_at dksJ4_max_0 0 rfl rfl)
theorem dJ4_max_1 : decode cJ4_max 1 = .ok (.iload_n 1, 1) := dk_27 (dk_at dksJ4_max_0 1 rfl rfl)
theorem dJ4_max_2 : decode cJ4_max 2 = .ok (.if_icmp .lt 7, 3) := dk_161 0 7 (dk_at dksJ4_max_0 2 rfl rfl)
theorem dJ4_max_5 : decode cJ4_max 5 = .ok (.iload_n 0, 1) := dk_26 (dk_at dksJ4_max_0 5 rfl rfl)
theorem dJ4_max_6 : decode cJ4_max 6 = .ok (.goto 4, 3) := dk_167 0 4 (dk_at dksJ4_max_0 6 rfl rfl)
theorem dJ4_max_9 : decode cJ4_max 9 = .ok (.iload_n 1, 1) := dk_27 (dk_at dksJ4_max_0 9 rfl rfl)
theorem dJ4_max_10 : decode cJ4_max 10 = .ok (.ireturn, 1) := dk_172 (dk_at dksJ4_max_0 10 rfl rfl)
theorem q12 : (Jvm.Cond.initialized "java/lang/Math") ∈ lw_all := lw_g (lw_at lw_m1 9 rfl) rfl
theorem q139 : (Jvm.Cond.static ({ cls := "java/lang/Math", name := "max", desc := "(II)I" } : Jvm.MethodName)) ∈ lw_all := lw_g (lw_at lw_m1 136 rfl) rfl
theorem q140 : (Jvm.Cond.code ({ cls := "java/lang/Math", name := "max", desc := "(II)I" } : Jvm.MethodName) prog_15_method_65_code (2 : Nat) (Option.some Jvm.ClassFile.FieldType.int)) ∈ lw_all := lw_g (lw_at lw_m1 137 rfl) rfl
/-! java/lang/Number -/
set_option maxRecDepth 100000
def RJ5 : String := "java/lang/Number"
abbrev cJ5_init : ByteArray := prog_17_method_1_code
def yJ5_init : MethodName := ⟨RJ5, "<init>", "()V"⟩
theorem dJ5_init_0 : decode cJ5_init 0 = .ok (.aload_n 0, 1) := by decide +kernel
theorem dJ5_init_1 : decode cJ5_init 1 = .ok (.invokespecial 1, 3) := by decide +kernel
theorem dJ5_init_4 : decode cJ5_init 4 = .ok (.return_, 1) := by decide +kernel
theorem q14 : (Jvm.Cond.initialized "java/lang/Number") ∈ lw_all := lw_g (lw_at lw_m1 11 rfl) rfl
theorem q211 : (Jvm.Cond.instanceMethod ({ cls := "java/lang/Number", name := "<init>", desc := "()V" } : Jvm.MethodName)) ∈ lw_all := lw_g (lw_at lw_m1 208 rfl) rfl
theorem q212 : (Jvm.Cond.code ({ cls := "java/lang/Number", name := "<init>", desc := "()V" } : Jvm.MethodName) prog_17_method_1_code (1 : Nat) (Option.none : Option Jvm.ClassFile.FieldType)) ∈ lw_all := lw_g (lw_at lw_m1 209 rfl) rfl
theorem q213 : (Jvm.Cond.methodLink "java/lang/Number" (1 : Nat) ({ cls := "java/lang/Object", name := "<init>", desc := "()V" } : Jvm.MethodName)) ∈ lw_all := lw_g (lw_at lw_m1 210 rfl) rfl
/-! java/lang/Integer -/
set_option maxRecDepth 100000
def RJ6 : String := "java/lang/Integer"
def TJ6 : u_T := fun k => match k with
  | _ => ("java/lang/Integer", "value", "I", true)
def tyJ6 : Nat → FieldType := fun k => match k with
  | _ => .int
abbrev wsJ60 : List Cond := u_ws RJ6 TJ6 1
theorem nmJ6 : ∀ a, a < 1 → ∀ b, b < 1 → a ≠ b → (TJ6 a).2.1 ≠ (TJ6 b).2.1 := by decide +kernel
theorem tyJ6_ok : ∀ k, k < 1 → parseFieldDescriptor (TJ6 k).2.2.1 = some (tyJ6 k) := by decide +kernel
abbrev cJ6_valueOf : ByteArray := prog_13_method_22_code
def yJ6_valueOf : MethodName := ⟨RJ6, "valueOf", "(I)Ljava/lang/Integer;"⟩
def dkwJ6_valueOf_1 : List UInt8 := [187, 0, 1, 89, 26, 183, 0, 199, 176]
abbrev dktJ6_valueOf_1 : List UInt8 := dkwJ6_valueOf_1 ++ []
def dkwJ6_valueOf_0 : List UInt8 := [26, 16, 128, 161, 0, 20, 26, 178, 0, 191, 163, 0, 13, 178, 0, 195, 26, 17, 0, 128, 96, 50, 176]
abbrev dktJ6_valueOf_0 : List UInt8 := dkwJ6_valueOf_0 ++ dktJ6_valueOf_1
theorem dksJ6_valueOf_0 : cJ6_valueOf.data.toList.drop 0 = dktJ6_valueOf_0 := by decide +kernel
theorem dksJ6_valueOf_1 : cJ6_valueOf.data.toList.drop 23 = dktJ6_valueOf_1 := dk_seg dksJ6_valueOf_0 23 rfl rfl
theorem dJ6_valueOf_0 : decode cJ6_valueOf 0 = .ok (.iload_n 0, 1) := dk_26 (dk_at dksJ6_valueOf_0 0 rfl rfl)
theorem dJ6_valueOf_1 : decode cJ6_valueOf 1 = .ok (.bipush (-128), 2) := dk_16 128 (dk_at dksJ6_valueOf_0 1 rfl rfl)
theorem dJ6_valueOf_3 : decode cJ6_valueOf 3 = .ok (.if_icmp .lt 20, 3) := dk_161 0 20 (dk_at dksJ6_valueOf_0 3 rfl rfl)
theorem dJ6_valueOf_6 : decode cJ6_valueOf 6 = .ok (.iload_n 0, 1) := dk_26 (dk_at dksJ6_valueOf_0 6 rfl rfl)
theorem dJ6_valueOf_7 : decode cJ6_valueOf 7 = .ok (.getstatic 191, 3) := dk_178 0 191 (dk_at dksJ6_valueOf_0 7 rfl rfl)
theorem dJ6_valueOf_10 : decode cJ6_valueOf 10 = .ok (.if_icmp .gt 13, 3) := dk_163 0 13 (dk_at dksJ6_valueOf_0 10 rfl rfl)
theorem dJ6_valueOf_13 : decode cJ6_valueOf 13 = .ok (.getstatic 195, 3) := dk_178 0 195 (dk_at dksJ6_valueOf_0 13 rfl rfl)
theorem dJ6_valueOf_16 : decode cJ6_valueOf 16 = .ok (.iload_n 0, 1) := dk_26 (dk_at dksJ6_valueOf_0 16 rfl rfl)
theorem dJ6_valueOf_17 : decode cJ6_valueOf 17 = .ok (.sipush 128, 3) := dk_17 0 128 (dk_at dksJ6_valueOf_0 17 rfl rfl)
theorem dJ6_valueOf_20 : decode cJ6_valueOf 20 = .ok (.iadd, 1) := dk_96 (dk_at dksJ6_valueOf_0 20 rfl rfl)
theorem dJ6_valueOf_21 : decode cJ6_valueOf 21 = .ok (.aaload, 1) := dk_50 (dk_at dksJ6_valueOf_0 21 rfl rfl)
theorem dJ6_valueOf_22 : decode cJ6_valueOf 22 = .ok (.areturn, 1) := dk_176 (dk_at dksJ6_valueOf_0 22 rfl rfl)
theorem dJ6_valueOf_23 : decode cJ6_valueOf 23 = .ok (.new 1, 3) := dk_187 0 1 (dk_at dksJ6_valueOf_1 0 rfl rfl)
theorem dJ6_valueOf_26 : decode cJ6_valueOf 26 = .ok (.dup, 1) := dk_89 (dk_at dksJ6_valueOf_1 3 rfl rfl)
theorem dJ6_valueOf_27 : decode cJ6_valueOf 27 = .ok (.iload_n 0, 1) := dk_26 (dk_at dksJ6_valueOf_1 4 rfl rfl)
theorem dJ6_valueOf_28 : decode cJ6_valueOf 28 = .ok (.invokespecial 199, 3) := dk_183 0 199 (dk_at dksJ6_valueOf_1 5 rfl rfl)
theorem dJ6_valueOf_31 : decode cJ6_valueOf 31 = .ok (.areturn, 1) := dk_176 (dk_at dksJ6_valueOf_1 8 rfl rfl)
abbrev cJ6_init : ByteArray := prog_13_method_23_code
def yJ6_init : MethodName := ⟨RJ6, "<init>", "(I)V"⟩
def dkwJ6_init_0 : List UInt8 := [42, 183, 0, 202, 42, 27, 181, 0, 205, 177]
abbrev dktJ6_init_0 : List UInt8 := dkwJ6_init_0 ++ []
theorem dksJ6_init_0 : cJ6_init.data.toList.drop 0 = dktJ6_init_0 := by decide +kernel
theorem dJ6_init_0 : decode cJ6_init 0 = .ok (.aload_n 0, 1) := dk_42 (dk_at dksJ6_init_0 0 rfl rfl)
theorem dJ6_init_1 : decode cJ6_init 1 = .ok (.invokespecial 202, 3) := dk_183 0 202 (dk_at dksJ6_init_0 1 rfl rfl)
theorem dJ6_init_4 : decode cJ6_init 4 = .ok (.aload_n 0, 1) := dk_42 (dk_at dksJ6_init_0 4 rfl rfl)
theorem dJ6_init_5 : decode cJ6_init 5 = .ok (.iload_n 1, 1) := dk_27 (dk_at dksJ6_init_0 5 rfl rfl)
theorem dJ6_init_6 : decode cJ6_init 6 = .ok (.putfield 205, 3) := dk_181 0 205 (dk_at dksJ6_init_0 6 rfl rfl)
theorem dJ6_init_9 : decode cJ6_init 9 = .ok (.return_, 1) := dk_177 (dk_at dksJ6_init_0 9 rfl rfl)
abbrev cJ6_intValue : ByteArray := prog_13_method_27_code
def yJ6_intValue : MethodName := ⟨RJ6, "intValue", "()I"⟩
theorem dJ6_intValue_0 : decode cJ6_intValue 0 = .ok (.aload_n 0, 1) := by decide +kernel
theorem dJ6_intValue_1 : decode cJ6_intValue 1 = .ok (.getfield 205, 3) := by decide +kernel
theorem dJ6_intValue_4 : decode cJ6_intValue 4 = .ok (.ireturn, 1) := by decide +kernel
theorem q15 : (Jvm.Cond.initialized "java/lang/Integer") ∈ lw_all := lw_g (lw_at lw_m1 12 rfl) rfl
theorem q199 : (Jvm.Cond.static ({ cls := "java/lang/Integer", name := "valueOf", desc := "(I)Ljava/lang/Integer;" } : Jvm.MethodName)) ∈ lw_all := lw_g (lw_at lw_m1 196 rfl) rfl
theorem q200 : (Jvm.Cond.code ({ cls := "java/lang/Integer", name := "valueOf", desc := "(I)Ljava/lang/Integer;" } : Jvm.MethodName) prog_13_method_22_code (1 : Nat) (Option.some (Jvm.ClassFile.FieldType.object "java/lang/Integer"))) ∈ lw_all := lw_g (lw_at lw_m1 197 rfl) rfl
theorem q201 : (Jvm.Cond.fieldLink "java/lang/Integer" (191 : Nat) "java/lang/Integer$IntegerCache" "high" "I") ∈ lw_all := lw_g (lw_at lw_m1 198 rfl) rfl
theorem q203 : (Jvm.Cond.fieldLink "java/lang/Integer" (195 : Nat) "java/lang/Integer$IntegerCache" "cache" "[Ljava/lang/Integer;") ∈ lw_all := lw_g (lw_at lw_m1 200 rfl) rfl
theorem q205 : (Jvm.Cond.classLink "java/lang/Integer" (1 : Nat) "java/lang/Integer") ∈ lw_all := lw_g (lw_at lw_m1 202 rfl) rfl
theorem q206 : (Jvm.Cond.instantiable "java/lang/Integer" (1 : Nat)) ∈ lw_all := lw_g (lw_at lw_m1 203 rfl) rfl
theorem q207 : (Jvm.Cond.methodLink "java/lang/Integer" (199 : Nat) ({ cls := "java/lang/Integer", name := "<init>", desc := "(I)V" } : Jvm.MethodName)) ∈ lw_all := lw_g (lw_at lw_m1 204 rfl) rfl
theorem q208 : (Jvm.Cond.instanceMethod ({ cls := "java/lang/Integer", name := "<init>", desc := "(I)V" } : Jvm.MethodName)) ∈ lw_all := lw_g (lw_at lw_m1 205 rfl) rfl
theorem q209 : (Jvm.Cond.code ({ cls := "java/lang/Integer", name := "<init>", desc := "(I)V" } : Jvm.MethodName) prog_13_method_23_code (2 : Nat) (Option.none : Option Jvm.ClassFile.FieldType)) ∈ lw_all := lw_g (lw_at lw_m1 206 rfl) rfl
theorem q210 : (Jvm.Cond.methodLink "java/lang/Integer" (202 : Nat) ({ cls := "java/lang/Number", name := "<init>", desc := "()V" } : Jvm.MethodName)) ∈ lw_all := lw_g (lw_at lw_m1 207 rfl) rfl
theorem q214 : (Jvm.Cond.fieldLink "java/lang/Integer" (205 : Nat) "java/lang/Integer" "value" "I") ∈ lw_all := lw_g (lw_at lw_m1 211 rfl) rfl
theorem q215 : (Jvm.Cond.laysFinal "java/lang/Integer" "java/lang/Integer" "value" "I") ∈ lw_all := lw_g (lw_at lw_m1 212 rfl) rfl
theorem q216 : (Jvm.Cond.soleField "java/lang/Integer" "value") ∈ lw_all := lw_g (lw_at lw_m1 213 rfl) rfl
theorem q217 : (Jvm.Cond.superclass "java/lang/Integer" "java/lang/Number") ∈ lw_all := lw_g (lw_at lw_m1 214 rfl) rfl
theorem q268 : (Jvm.Cond.instanceMethod ({ cls := "java/lang/Integer", name := "intValue", desc := "()I" } : Jvm.MethodName)) ∈ lw_all := lw_g (lw_at lw_m2 25 rfl) rfl
theorem q269 : (Jvm.Cond.selects "java/lang/Integer" ({ cls := "java/lang/Integer", name := "intValue", desc := "()I" } : Jvm.MethodName) ({ cls := "java/lang/Integer", name := "intValue", desc := "()I" } : Jvm.MethodName)) ∈ lw_all := lw_g (lw_at lw_m2 26 rfl) rfl
theorem q270 : (Jvm.Cond.code ({ cls := "java/lang/Integer", name := "intValue", desc := "()I" } : Jvm.MethodName) prog_13_method_27_code (1 : Nat) (Option.some Jvm.ClassFile.FieldType.int)) ∈ lw_all := lw_g (lw_at lw_m2 27 rfl) rfl
theorem q461 : (Jvm.Cond.castable "java/lang/Integer" "java/lang/Comparable") ∈ lw_tbl := lw_at lw_m2 218 rfl
theorem q468 : (Jvm.Cond.castable "java/lang/Integer" "java/lang/Object") ∈ lw_tbl := lw_at lw_m2 225 rfl
theorem in_J6 : ∀ w ∈ wsJ60, w ∈ lw_all := lw_in wsJ60 [215] (by decide +kernel) (by decide +kernel)
/-! java/lang/Object -/
set_option maxRecDepth 100000
def RJ9 : String := "java/lang/Object"
abbrev cJ9_init : ByteArray := object_method_1_code
def yJ9_init : MethodName := ⟨RJ9, "<init>", "()V"⟩
theorem dJ9_init_0 : decode cJ9_init 0 = .ok (.return_, 1) := by decide +kernel
theorem q26 : (Jvm.Cond.instanceMethod ({ cls := "java/lang/Object", name := "<init>", desc := "()V" } : Jvm.MethodName)) ∈ lw_all := lw_g (lw_at lw_m1 23 rfl) rfl
theorem q27 : (Jvm.Cond.code ({ cls := "java/lang/Object", name := "<init>", desc := "()V" } : Jvm.MethodName) object_method_1_code (1 : Nat) (Option.none : Option Jvm.ClassFile.FieldType)) ∈ lw_all := lw_g (lw_at lw_m1 24 rfl) rfl
end
section
/-! AbstractArrayWeakHeap -/
set_option maxRecDepth 100000
def RX1 : String := "AbstractArrayWeakHeap"
abbrev cX1_init : ByteArray := prog_2_method_1_code
def yX1_init : MethodName := ⟨RX1, "<init>", "(Ljava/util/Comparator;I)V"⟩
def dkwX1_init_1 : List UInt8 := [184, 0, 23, 181, 0, 29, 42, 42, 180, 0, 29, 182, 0, 32, 177]
abbrev dktX1_init_1 : List UInt8 := dkwX1_init_1 ++ []
def dkwX1_init_0 : List UInt8 := [42, 183, 0, 3, 42, 28, 182, 0, 9, 42, 3, 181, 0, 15, 42, 43, 181, 0, 19, 42, 28, 16, 16]
abbrev dktX1_init_0 : List UInt8 := dkwX1_init_0 ++ dktX1_init_1
theorem dksX1_init_0 : cX1_init.data.toList.drop 0 = dktX1_init_0 := by decide +kernel
theorem dksX1_init_1 : cX1_init.data.toList.drop 23 = dktX1_init_1 := dk_seg dksX1_init_0 23 rfl rfl
theorem dX1_init_0 : decode cX1_init 0 = .ok (.aload_n 0, 1) := dk_42 (dk_at dksX1_init_0 0 rfl rfl)
theorem dX1_init_1 : decode cX1_init 1 = .ok (.invokespecial 3, 3) := dk_183 0 3 (dk_at dksX1_init_0 1 rfl rfl)
theorem dX1_init_4 : decode cX1_init 4 = .ok (.aload_n 0, 1) := dk_42 (dk_at dksX1_init_0 4 rfl rfl)
theorem dX1_init_5 : decode cX1_init 5 = .ok (.iload_n 2, 1) := dk_28 (dk_at dksX1_init_0 5 rfl rfl)
theorem dX1_init_6 : decode cX1_init 6 = .ok (.invokevirtual 9, 3) := dk_182 0 9 (dk_at dksX1_init_0 6 rfl rfl)
theorem dX1_init_9 : decode cX1_init 9 = .ok (.aload_n 0, 1) := dk_42 (dk_at dksX1_init_0 9 rfl rfl)
theorem dX1_init_10 : decode cX1_init 10 = .ok (.iconst 0, 1) := dk_3 (dk_at dksX1_init_0 10 rfl rfl)
theorem dX1_init_11 : decode cX1_init 11 = .ok (.putfield 15, 3) := dk_181 0 15 (dk_at dksX1_init_0 11 rfl rfl)
theorem dX1_init_14 : decode cX1_init 14 = .ok (.aload_n 0, 1) := dk_42 (dk_at dksX1_init_0 14 rfl rfl)
theorem dX1_init_15 : decode cX1_init 15 = .ok (.aload_n 1, 1) := dk_43 (dk_at dksX1_init_0 15 rfl rfl)
theorem dX1_init_16 : decode cX1_init 16 = .ok (.putfield 19, 3) := dk_181 0 19 (dk_at dksX1_init_0 16 rfl rfl)
theorem dX1_init_19 : decode cX1_init 19 = .ok (.aload_n 0, 1) := dk_42 (dk_at dksX1_init_0 19 rfl rfl)
theorem dX1_init_20 : decode cX1_init 20 = .ok (.iload_n 2, 1) := dk_28 (dk_at dksX1_init_0 20 rfl rfl)
theorem dX1_init_21 : decode cX1_init 21 = .ok (.bipush 16, 2) := dk_16 16 (dk_at dksX1_init_0 21 rfl rfl)
theorem dX1_init_23 : decode cX1_init 23 = .ok (.invokestatic 23, 3) := dk_184 0 23 (dk_at dksX1_init_1 0 rfl rfl)
theorem dX1_init_26 : decode cX1_init 26 = .ok (.putfield 29, 3) := dk_181 0 29 (dk_at dksX1_init_1 3 rfl rfl)
theorem dX1_init_29 : decode cX1_init 29 = .ok (.aload_n 0, 1) := dk_42 (dk_at dksX1_init_1 6 rfl rfl)
theorem dX1_init_30 : decode cX1_init 30 = .ok (.aload_n 0, 1) := dk_42 (dk_at dksX1_init_1 7 rfl rfl)
theorem dX1_init_31 : decode cX1_init 31 = .ok (.getfield 29, 3) := dk_180 0 29 (dk_at dksX1_init_1 8 rfl rfl)
theorem dX1_init_34 : decode cX1_init 34 = .ok (.invokevirtual 32, 3) := dk_182 0 32 (dk_at dksX1_init_1 11 rfl rfl)
theorem dX1_init_37 : decode cX1_init 37 = .ok (.return_, 1) := dk_177 (dk_at dksX1_init_1 14 rfl rfl)
abbrev cX1_checkCapacity : ByteArray := prog_2_method_5_code
def yX1_checkCapacity : MethodName := ⟨RX1, "checkCapacity", "(I)V"⟩
def dkwX1_checkCapacity_1 : List UInt8 := [18, 43, 183, 0, 39, 191, 177]
abbrev dktX1_checkCapacity_1 : List UInt8 := dkwX1_checkCapacity_1 ++ []
def dkwX1_checkCapacity_0 : List UInt8 := [27, 156, 0, 13, 187, 0, 35, 89, 18, 37, 183, 0, 39, 191, 27, 18, 42, 164, 0, 13, 187, 0, 35, 89]
abbrev dktX1_checkCapacity_0 : List UInt8 := dkwX1_checkCapacity_0 ++ dktX1_checkCapacity_1
theorem dksX1_checkCapacity_0 : cX1_checkCapacity.data.toList.drop 0 = dktX1_checkCapacity_0 := by decide +kernel
theorem dksX1_checkCapacity_1 : cX1_checkCapacity.data.toList.drop 24 = dktX1_checkCapacity_1 := dk_seg dksX1_checkCapacity_0 24 rfl rfl
theorem dX1_checkCapacity_0 : decode cX1_checkCapacity 0 = .ok (.iload_n 1, 1) := dk_27 (dk_at dksX1_checkCapacity_0 0 rfl rfl)
theorem dX1_checkCapacity_1 : decode cX1_checkCapacity 1 = .ok (.ifCond .ge 13, 3) := dk_156 0 13 (dk_at dksX1_checkCapacity_0 1 rfl rfl)
theorem dX1_checkCapacity_4 : decode cX1_checkCapacity 4 = .ok (.new 35, 3) := dk_187 0 35 (dk_at dksX1_checkCapacity_0 4 rfl rfl)
theorem dX1_checkCapacity_7 : decode cX1_checkCapacity 7 = .ok (.dup, 1) := dk_89 (dk_at dksX1_checkCapacity_0 7 rfl rfl)
theorem dX1_checkCapacity_8 : decode cX1_checkCapacity 8 = .ok (.ldc 37, 2) := dk_18 37 (dk_at dksX1_checkCapacity_0 8 rfl rfl)
theorem dX1_checkCapacity_10 : decode cX1_checkCapacity 10 = .ok (.invokespecial 39, 3) := dk_183 0 39 (dk_at dksX1_checkCapacity_0 10 rfl rfl)
theorem dX1_checkCapacity_13 : decode cX1_checkCapacity 13 = .ok (.athrow, 1) := dk_191 (dk_at dksX1_checkCapacity_0 13 rfl rfl)
theorem dX1_checkCapacity_14 : decode cX1_checkCapacity 14 = .ok (.iload_n 1, 1) := dk_27 (dk_at dksX1_checkCapacity_0 14 rfl rfl)
theorem dX1_checkCapacity_15 : decode cX1_checkCapacity 15 = .ok (.ldc 42, 2) := dk_18 42 (dk_at dksX1_checkCapacity_0 15 rfl rfl)
theorem dX1_checkCapacity_17 : decode cX1_checkCapacity 17 = .ok (.if_icmp .le 13, 3) := dk_164 0 13 (dk_at dksX1_checkCapacity_0 17 rfl rfl)
theorem dX1_checkCapacity_20 : decode cX1_checkCapacity 20 = .ok (.new 35, 3) := dk_187 0 35 (dk_at dksX1_checkCapacity_0 20 rfl rfl)
theorem dX1_checkCapacity_23 : decode cX1_checkCapacity 23 = .ok (.dup, 1) := dk_89 (dk_at dksX1_checkCapacity_0 23 rfl rfl)
theorem dX1_checkCapacity_24 : decode cX1_checkCapacity 24 = .ok (.ldc 43, 2) := dk_18 43 (dk_at dksX1_checkCapacity_1 0 rfl rfl)
theorem dX1_checkCapacity_26 : decode cX1_checkCapacity 26 = .ok (.invokespecial 39, 3) := dk_183 0 39 (dk_at dksX1_checkCapacity_1 2 rfl rfl)
theorem dX1_checkCapacity_29 : decode cX1_checkCapacity 29 = .ok (.athrow, 1) := dk_191 (dk_at dksX1_checkCapacity_1 5 rfl rfl)
theorem dX1_checkCapacity_30 : decode cX1_checkCapacity 30 = .ok (.return_, 1) := dk_177 (dk_at dksX1_checkCapacity_1 6 rfl rfl)
abbrev cX1_isEmpty : ByteArray := prog_2_method_2_code
def yX1_isEmpty : MethodName := ⟨RX1, "isEmpty", "()Z"⟩
def dkwX1_isEmpty_0 : List UInt8 := [42, 180, 0, 15, 154, 0, 7, 4, 167, 0, 4, 3, 172]
abbrev dktX1_isEmpty_0 : List UInt8 := dkwX1_isEmpty_0 ++ []
theorem dksX1_isEmpty_0 : cX1_isEmpty.data.toList.drop 0 = dktX1_isEmpty_0 := by decide +kernel
theorem dX1_isEmpty_0 : decode cX1_isEmpty 0 = .ok (.aload_n 0, 1) := dk_42 (dk_at dksX1_isEmpty_0 0 rfl rfl)
theorem dX1_isEmpty_1 : decode cX1_isEmpty 1 = .ok (.getfield 15, 3) := dk_180 0 15 (dk_at dksX1_isEmpty_0 1 rfl rfl)
theorem dX1_isEmpty_4 : decode cX1_isEmpty 4 = .ok (.ifCond .ne 7, 3) := dk_154 0 7 (dk_at dksX1_isEmpty_0 4 rfl rfl)
theorem dX1_isEmpty_7 : decode cX1_isEmpty 7 = .ok (.iconst 1, 1) := dk_4 (dk_at dksX1_isEmpty_0 7 rfl rfl)
theorem dX1_isEmpty_8 : decode cX1_isEmpty 8 = .ok (.goto 4, 3) := dk_167 0 4 (dk_at dksX1_isEmpty_0 8 rfl rfl)
theorem dX1_isEmpty_11 : decode cX1_isEmpty 11 = .ok (.iconst 0, 1) := dk_3 (dk_at dksX1_isEmpty_0 11 rfl rfl)
theorem dX1_isEmpty_12 : decode cX1_isEmpty 12 = .ok (.ireturn, 1) := dk_172 (dk_at dksX1_isEmpty_0 12 rfl rfl)
abbrev cX1_size : ByteArray := prog_2_method_3_code
def yX1_size : MethodName := ⟨RX1, "size", "()J"⟩
def dkwX1_size_0 : List UInt8 := [42, 180, 0, 15, 133, 173]
abbrev dktX1_size_0 : List UInt8 := dkwX1_size_0 ++ []
theorem dksX1_size_0 : cX1_size.data.toList.drop 0 = dktX1_size_0 := by decide +kernel
theorem dX1_size_0 : decode cX1_size 0 = .ok (.aload_n 0, 1) := dk_42 (dk_at dksX1_size_0 0 rfl rfl)
theorem dX1_size_1 : decode cX1_size 1 = .ok (.getfield 15, 3) := dk_180 0 15 (dk_at dksX1_size_0 1 rfl rfl)
theorem dX1_size_4 : decode cX1_size 4 = .ok (.i2l, 1) := dk_133 (dk_at dksX1_size_0 4 rfl rfl)
theorem dX1_size_5 : decode cX1_size 5 = .ok (.lreturn, 1) := dk_173 (dk_at dksX1_size_0 5 rfl rfl)
abbrev cX1_clear : ByteArray := prog_2_method_4_code
def yX1_clear : MethodName := ⟨RX1, "clear", "()V"⟩
def dkwX1_clear_0 : List UInt8 := [42, 3, 181, 0, 15, 177]
abbrev dktX1_clear_0 : List UInt8 := dkwX1_clear_0 ++ []
theorem dksX1_clear_0 : cX1_clear.data.toList.drop 0 = dktX1_clear_0 := by decide +kernel
theorem dX1_clear_0 : decode cX1_clear 0 = .ok (.aload_n 0, 1) := dk_42 (dk_at dksX1_clear_0 0 rfl rfl)
theorem dX1_clear_1 : decode cX1_clear 1 = .ok (.iconst 0, 1) := dk_3 (dk_at dksX1_clear_0 1 rfl rfl)
theorem dX1_clear_2 : decode cX1_clear 2 = .ok (.putfield 15, 3) := dk_181 0 15 (dk_at dksX1_clear_0 2 rfl rfl)
theorem dX1_clear_5 : decode cX1_clear 5 = .ok (.return_, 1) := dk_177 (dk_at dksX1_clear_0 5 rfl rfl)
theorem q5 : (Jvm.Cond.initialized "AbstractArrayWeakHeap") ∈ lw_all := lw_g (lw_at lw_m1 2 rfl) rfl
theorem q47 : (Jvm.Cond.instanceMethod ({ cls := "AbstractArrayWeakHeap", name := "<init>", desc := "(Ljava/util/Comparator;I)V" } : Jvm.MethodName)) ∈ lw_all := lw_g (lw_at lw_m1 44 rfl) rfl
theorem q48 : (Jvm.Cond.code ({ cls := "AbstractArrayWeakHeap", name := "<init>", desc := "(Ljava/util/Comparator;I)V" } : Jvm.MethodName) prog_2_method_1_code (3 : Nat) (Option.none : Option Jvm.ClassFile.FieldType)) ∈ lw_all := lw_g (lw_at lw_m1 45 rfl) rfl
theorem q49 : (Jvm.Cond.methodLink "AbstractArrayWeakHeap" (3 : Nat) ({ cls := "java/lang/Object", name := "<init>", desc := "()V" } : Jvm.MethodName)) ∈ lw_all := lw_g (lw_at lw_m1 46 rfl) rfl
theorem q50 : (Jvm.Cond.methodLink "AbstractArrayWeakHeap" (9 : Nat) ({ cls := "AbstractArrayWeakHeap", name := "checkCapacity", desc := "(I)V" } : Jvm.MethodName)) ∈ lw_all := lw_g (lw_at lw_m1 47 rfl) rfl
theorem q51 : (Jvm.Cond.instanceMethod ({ cls := "AbstractArrayWeakHeap", name := "checkCapacity", desc := "(I)V" } : Jvm.MethodName)) ∈ lw_all := lw_g (lw_at lw_m1 48 rfl) rfl
theorem q52 : (Jvm.Cond.sameMethod "AbstractArrayWeakHeap" "AbstractArrayWeakHeap" "checkCapacity" "(I)V") ∈ lw_all := lw_g (lw_at lw_m1 49 rfl) rfl
theorem q54 : (Jvm.Cond.code ({ cls := "AbstractArrayWeakHeap", name := "checkCapacity", desc := "(I)V" } : Jvm.MethodName) prog_2_method_5_code (2 : Nat) (Option.none : Option Jvm.ClassFile.FieldType)) ∈ lw_all := lw_g (lw_at lw_m1 51 rfl) rfl
theorem q55 : (Jvm.Cond.classLink "AbstractArrayWeakHeap" (35 : Nat) "java/lang/IllegalArgumentException") ∈ lw_all := lw_g (lw_at lw_m1 52 rfl) rfl
theorem q109 : (Jvm.Cond.stringRef "AbstractArrayWeakHeap" (37 : Nat) "left out") ∈ lw_tbl := lw_at lw_m1 106 rfl
theorem q110 : (Jvm.Cond.methodLink "AbstractArrayWeakHeap" (39 : Nat) ({ cls := "java/lang/IllegalArgumentException", name := "<init>", desc := "(Ljava/lang/String;)V" } : Jvm.MethodName)) ∈ lw_all := lw_g (lw_at lw_m1 107 rfl) rfl
theorem q136 : (Jvm.Cond.constant "AbstractArrayWeakHeap" (42 : Nat) (2147483638 : Int32)) ∈ lw_all := lw_g (lw_at lw_m1 133 rfl) rfl
theorem q137 : (Jvm.Cond.stringRef "AbstractArrayWeakHeap" (43 : Nat) "Heap capacity too large") ∈ lw_tbl := lw_at lw_m1 134 rfl
theorem q138 : (Jvm.Cond.methodLink "AbstractArrayWeakHeap" (23 : Nat) ({ cls := "java/lang/Math", name := "max", desc := "(II)I" } : Jvm.MethodName)) ∈ lw_all := lw_g (lw_at lw_m1 135 rfl) rfl
theorem q141 : (Jvm.Cond.methodLink "AbstractArrayWeakHeap" (32 : Nat) ({ cls := "AbstractArrayWeakHeap", name := "initCapacity", desc := "(I)V" } : Jvm.MethodName)) ∈ lw_all := lw_g (lw_at lw_m1 138 rfl) rfl
theorem q142 : (Jvm.Cond.declares ({ cls := "AbstractArrayWeakHeap", name := "initCapacity", desc := "(I)V" } : Jvm.MethodName)) ∈ lw_tbl := lw_at lw_m1 139 rfl
theorem q143 : (Jvm.Cond.sameMethod "AbstractArrayWeakHeap" "AbstractArrayWeakHeap" "initCapacity" "(I)V") ∈ lw_all := lw_g (lw_at lw_m1 140 rfl) rfl
theorem q153 : (Jvm.Cond.fieldLink "AbstractArrayWeakHeap" (19 : Nat) "AbstractArrayWeakHeap" "comparator" "Ljava/util/Comparator;") ∈ lw_all := lw_g (lw_at lw_m1 150 rfl) rfl
theorem q162 : (Jvm.Cond.fieldLink "AbstractArrayWeakHeap" (15 : Nat) "AbstractArrayWeakHeap" "size" "I") ∈ lw_all := lw_g (lw_at lw_m1 159 rfl) rfl
theorem q167 : (Jvm.Cond.fieldLink "AbstractArrayWeakHeap" (29 : Nat) "AbstractArrayWeakHeap" "minCapacity" "I") ∈ lw_all := lw_g (lw_at lw_m1 164 rfl) rfl
theorem q173 : (Jvm.Cond.soleField "AbstractArrayWeakHeap" "comparator") ∈ lw_all := lw_g (lw_at lw_m1 170 rfl) rfl
theorem q175 : (Jvm.Cond.soleField "AbstractArrayWeakHeap" "array") ∈ lw_all := lw_g (lw_at lw_m1 172 rfl) rfl
theorem q177 : (Jvm.Cond.soleField "AbstractArrayWeakHeap" "size") ∈ lw_all := lw_g (lw_at lw_m1 174 rfl) rfl
theorem q179 : (Jvm.Cond.soleField "AbstractArrayWeakHeap" "minCapacity") ∈ lw_all := lw_g (lw_at lw_m1 176 rfl) rfl
theorem q244 : (Jvm.Cond.declares ({ cls := "AbstractArrayWeakHeap", name := "ensureCapacity", desc := "(I)V" } : Jvm.MethodName)) ∈ lw_tbl := lw_at lw_m2 1 rfl
theorem q250 : (Jvm.Cond.declares ({ cls := "AbstractArrayWeakHeap", name := "checkCapacity", desc := "(I)V" } : Jvm.MethodName)) ∈ lw_tbl := lw_at lw_m2 7 rfl
theorem q258 : (Jvm.Cond.declares ({ cls := "AbstractArrayWeakHeap", name := "fixup", desc := "(I)V" } : Jvm.MethodName)) ∈ lw_tbl := lw_at lw_m2 15 rfl
theorem q273 : (Jvm.Cond.declares ({ cls := "AbstractArrayWeakHeap", name := "fixupWithComparator", desc := "(I)V" } : Jvm.MethodName)) ∈ lw_tbl := lw_at lw_m2 30 rfl
theorem q325 : (Jvm.Cond.declares ({ cls := "AbstractArrayWeakHeap", name := "isEmpty", desc := "()Z" } : Jvm.MethodName)) ∈ lw_tbl := lw_at lw_m2 82 rfl
theorem q327 : (Jvm.Cond.instanceMethod ({ cls := "AbstractArrayWeakHeap", name := "isEmpty", desc := "()Z" } : Jvm.MethodName)) ∈ lw_all := lw_g (lw_at lw_m2 84 rfl) rfl
theorem q328 : (Jvm.Cond.code ({ cls := "AbstractArrayWeakHeap", name := "isEmpty", desc := "()Z" } : Jvm.MethodName) prog_2_method_2_code (1 : Nat) (Option.some Jvm.ClassFile.FieldType.boolean)) ∈ lw_all := lw_g (lw_at lw_m2 85 rfl) rfl
theorem q368 : (Jvm.Cond.declares ({ cls := "AbstractArrayWeakHeap", name := "fixdown", desc := "(I)V" } : Jvm.MethodName)) ∈ lw_tbl := lw_at lw_m2 125 rfl
theorem q372 : (Jvm.Cond.declares ({ cls := "AbstractArrayWeakHeap", name := "fixdownWithComparator", desc := "(I)V" } : Jvm.MethodName)) ∈ lw_tbl := lw_at lw_m2 129 rfl
theorem q380 : (Jvm.Cond.declares ({ cls := "AbstractArrayWeakHeap", name := "size", desc := "()J" } : Jvm.MethodName)) ∈ lw_tbl := lw_at lw_m2 137 rfl
theorem q382 : (Jvm.Cond.instanceMethod ({ cls := "AbstractArrayWeakHeap", name := "size", desc := "()J" } : Jvm.MethodName)) ∈ lw_all := lw_g (lw_at lw_m2 139 rfl) rfl
theorem q383 : (Jvm.Cond.code ({ cls := "AbstractArrayWeakHeap", name := "size", desc := "()J" } : Jvm.MethodName) prog_2_method_3_code (1 : Nat) (Option.some Jvm.ClassFile.FieldType.long)) ∈ lw_all := lw_g (lw_at lw_m2 140 rfl) rfl
theorem q394 : (Jvm.Cond.declares ({ cls := "AbstractArrayWeakHeap", name := "clear", desc := "()V" } : Jvm.MethodName)) ∈ lw_tbl := lw_at lw_m2 151 rfl
theorem q396 : (Jvm.Cond.instanceMethod ({ cls := "AbstractArrayWeakHeap", name := "clear", desc := "()V" } : Jvm.MethodName)) ∈ lw_all := lw_g (lw_at lw_m2 153 rfl) rfl
theorem q397 : (Jvm.Cond.code ({ cls := "AbstractArrayWeakHeap", name := "clear", desc := "()V" } : Jvm.MethodName) prog_2_method_4_code (1 : Nat) (Option.none : Option Jvm.ClassFile.FieldType)) ∈ lw_all := lw_g (lw_at lw_m2 154 rfl) rfl
/-! AbstractArrayHeap -/
set_option maxRecDepth 100000
def RX2 : String := "AbstractArrayHeap"
abbrev cX2_init : ByteArray := prog_1_method_1_code
def yX2_init : MethodName := ⟨RX2, "<init>", "(Ljava/util/Comparator;I)V"⟩
def dkwX2_init_0 : List UInt8 := [42, 43, 28, 183, 0, 3, 177]
abbrev dktX2_init_0 : List UInt8 := dkwX2_init_0 ++ []
theorem dksX2_init_0 : cX2_init.data.toList.drop 0 = dktX2_init_0 := by decide +kernel
theorem dX2_init_0 : decode cX2_init 0 = .ok (.aload_n 0, 1) := dk_42 (dk_at dksX2_init_0 0 rfl rfl)
theorem dX2_init_1 : decode cX2_init 1 = .ok (.aload_n 1, 1) := dk_43 (dk_at dksX2_init_0 1 rfl rfl)
theorem dX2_init_2 : decode cX2_init 2 = .ok (.iload_n 2, 1) := dk_28 (dk_at dksX2_init_0 2 rfl rfl)
theorem dX2_init_3 : decode cX2_init 3 = .ok (.invokespecial 3, 3) := dk_183 0 3 (dk_at dksX2_init_0 3 rfl rfl)
theorem dX2_init_6 : decode cX2_init 6 = .ok (.return_, 1) := dk_177 (dk_at dksX2_init_0 6 rfl rfl)
abbrev cX2_initCapacity : ByteArray := prog_1_method_2_code
def yX2_initCapacity : MethodName := ⟨RX2, "initCapacity", "(I)V"⟩
def dkwX2_initCapacity_0 : List UInt8 := [42, 27, 4, 96, 189, 0, 9, 181, 0, 11, 177]
abbrev dktX2_initCapacity_0 : List UInt8 := dkwX2_initCapacity_0 ++ []
theorem dksX2_initCapacity_0 : cX2_initCapacity.data.toList.drop 0 = dktX2_initCapacity_0 := by decide +kernel
theorem dX2_initCapacity_0 : decode cX2_initCapacity 0 = .ok (.aload_n 0, 1) := dk_42 (dk_at dksX2_initCapacity_0 0 rfl rfl)
theorem dX2_initCapacity_1 : decode cX2_initCapacity 1 = .ok (.iload_n 1, 1) := dk_27 (dk_at dksX2_initCapacity_0 1 rfl rfl)
theorem dX2_initCapacity_2 : decode cX2_initCapacity 2 = .ok (.iconst 1, 1) := dk_4 (dk_at dksX2_initCapacity_0 2 rfl rfl)
theorem dX2_initCapacity_3 : decode cX2_initCapacity 3 = .ok (.iadd, 1) := dk_96 (dk_at dksX2_initCapacity_0 3 rfl rfl)
theorem dX2_initCapacity_4 : decode cX2_initCapacity 4 = .ok (.anewarray 9, 3) := dk_189 0 9 (dk_at dksX2_initCapacity_0 4 rfl rfl)
theorem dX2_initCapacity_7 : decode cX2_initCapacity 7 = .ok (.putfield 11, 3) := dk_181 0 11 (dk_at dksX2_initCapacity_0 7 rfl rfl)
theorem dX2_initCapacity_10 : decode cX2_initCapacity 10 = .ok (.return_, 1) := dk_177 (dk_at dksX2_initCapacity_0 10 rfl rfl)
abbrev cX2_insert : ByteArray := prog_1_method_4_code
def yX2_insert : MethodName := ⟨RX2, "insert", "(Ljava/lang/Object;)V"⟩
def dkwX2_insert_4 : List UInt8 := [42, 180, 0, 17, 182, 0, 44, 177]
abbrev dktX2_insert_4 : List UInt8 := dkwX2_insert_4 ++ []
def dkwX2_insert_3 : List UInt8 := [181, 0, 17, 43, 83, 42, 180, 0, 37, 199, 0, 14, 42, 42, 180, 0, 17, 182, 0, 41, 167, 0, 11, 42]
abbrev dktX2_insert_3 : List UInt8 := dkwX2_insert_3 ++ dktX2_insert_4
def dkwX2_insert_2 : List UInt8 := [180, 0, 11, 190, 4, 100, 104, 182, 0, 33, 42, 180, 0, 11, 42, 89, 180, 0, 17, 4, 96, 90]
abbrev dktX2_insert_2 : List UInt8 := dkwX2_insert_2 ++ dktX2_insert_3
def dkwX2_insert_1 : List UInt8 := [100, 160, 0, 33, 42, 180, 0, 11, 190, 4, 160, 0, 11, 42, 4, 182, 0, 33, 167, 0, 16, 42, 5, 42]
abbrev dktX2_insert_1 : List UInt8 := dkwX2_insert_1 ++ dktX2_insert_2
def dkwX2_insert_0 : List UInt8 := [43, 199, 0, 13, 187, 0, 26, 89, 18, 28, 183, 0, 30, 191, 42, 180, 0, 17, 42, 180, 0, 11, 190, 4]
abbrev dktX2_insert_0 : List UInt8 := dkwX2_insert_0 ++ dktX2_insert_1
theorem dksX2_insert_0 : cX2_insert.data.toList.drop 0 = dktX2_insert_0 := by decide +kernel
theorem dksX2_insert_1 : cX2_insert.data.toList.drop 24 = dktX2_insert_1 := dk_seg dksX2_insert_0 24 rfl rfl
theorem dksX2_insert_2 : cX2_insert.data.toList.drop 48 = dktX2_insert_2 := dk_seg dksX2_insert_1 24 rfl rfl
theorem dksX2_insert_3 : cX2_insert.data.toList.drop 70 = dktX2_insert_3 := dk_seg dksX2_insert_2 22 rfl rfl
theorem dksX2_insert_4 : cX2_insert.data.toList.drop 94 = dktX2_insert_4 := dk_seg dksX2_insert_3 24 rfl rfl
theorem dX2_insert_0 : decode cX2_insert 0 = .ok (.aload_n 1, 1) := dk_43 (dk_at dksX2_insert_0 0 rfl rfl)
theorem dX2_insert_1 : decode cX2_insert 1 = .ok (.ifnonnull 13, 3) := dk_199 0 13 (dk_at dksX2_insert_0 1 rfl rfl)
theorem dX2_insert_4 : decode cX2_insert 4 = .ok (.new 26, 3) := dk_187 0 26 (dk_at dksX2_insert_0 4 rfl rfl)
theorem dX2_insert_7 : decode cX2_insert 7 = .ok (.dup, 1) := dk_89 (dk_at dksX2_insert_0 7 rfl rfl)
theorem dX2_insert_8 : decode cX2_insert 8 = .ok (.ldc 28, 2) := dk_18 28 (dk_at dksX2_insert_0 8 rfl rfl)
theorem dX2_insert_10 : decode cX2_insert 10 = .ok (.invokespecial 30, 3) := dk_183 0 30 (dk_at dksX2_insert_0 10 rfl rfl)
theorem dX2_insert_13 : decode cX2_insert 13 = .ok (.athrow, 1) := dk_191 (dk_at dksX2_insert_0 13 rfl rfl)
theorem dX2_insert_14 : decode cX2_insert 14 = .ok (.aload_n 0, 1) := dk_42 (dk_at dksX2_insert_0 14 rfl rfl)
theorem dX2_insert_15 : decode cX2_insert 15 = .ok (.getfield 17, 3) := dk_180 0 17 (dk_at dksX2_insert_0 15 rfl rfl)
theorem dX2_insert_18 : decode cX2_insert 18 = .ok (.aload_n 0, 1) := dk_42 (dk_at dksX2_insert_0 18 rfl rfl)
theorem dX2_insert_19 : decode cX2_insert 19 = .ok (.getfield 11, 3) := dk_180 0 11 (dk_at dksX2_insert_0 19 rfl rfl)
theorem dX2_insert_22 : decode cX2_insert 22 = .ok (.arraylength, 1) := dk_190 (dk_at dksX2_insert_0 22 rfl rfl)
theorem dX2_insert_23 : decode cX2_insert 23 = .ok (.iconst 1, 1) := dk_4 (dk_at dksX2_insert_0 23 rfl rfl)
theorem dX2_insert_24 : decode cX2_insert 24 = .ok (.isub, 1) := dk_100 (dk_at dksX2_insert_1 0 rfl rfl)
theorem dX2_insert_25 : decode cX2_insert 25 = .ok (.if_icmp .ne 33, 3) := dk_160 0 33 (dk_at dksX2_insert_1 1 rfl rfl)
theorem dX2_insert_28 : decode cX2_insert 28 = .ok (.aload_n 0, 1) := dk_42 (dk_at dksX2_insert_1 4 rfl rfl)
theorem dX2_insert_29 : decode cX2_insert 29 = .ok (.getfield 11, 3) := dk_180 0 11 (dk_at dksX2_insert_1 5 rfl rfl)
theorem dX2_insert_32 : decode cX2_insert 32 = .ok (.arraylength, 1) := dk_190 (dk_at dksX2_insert_1 8 rfl rfl)
theorem dX2_insert_33 : decode cX2_insert 33 = .ok (.iconst 1, 1) := dk_4 (dk_at dksX2_insert_1 9 rfl rfl)
theorem dX2_insert_34 : decode cX2_insert 34 = .ok (.if_icmp .ne 11, 3) := dk_160 0 11 (dk_at dksX2_insert_1 10 rfl rfl)
theorem dX2_insert_37 : decode cX2_insert 37 = .ok (.aload_n 0, 1) := dk_42 (dk_at dksX2_insert_1 13 rfl rfl)
theorem dX2_insert_38 : decode cX2_insert 38 = .ok (.iconst 1, 1) := dk_4 (dk_at dksX2_insert_1 14 rfl rfl)
theorem dX2_insert_39 : decode cX2_insert 39 = .ok (.invokevirtual 33, 3) := dk_182 0 33 (dk_at dksX2_insert_1 15 rfl rfl)
theorem dX2_insert_42 : decode cX2_insert 42 = .ok (.goto 16, 3) := dk_167 0 16 (dk_at dksX2_insert_1 18 rfl rfl)
theorem dX2_insert_45 : decode cX2_insert 45 = .ok (.aload_n 0, 1) := dk_42 (dk_at dksX2_insert_1 21 rfl rfl)
theorem dX2_insert_46 : decode cX2_insert 46 = .ok (.iconst 2, 1) := dk_5 (dk_at dksX2_insert_1 22 rfl rfl)
theorem dX2_insert_47 : decode cX2_insert 47 = .ok (.aload_n 0, 1) := dk_42 (dk_at dksX2_insert_1 23 rfl rfl)
theorem dX2_insert_48 : decode cX2_insert 48 = .ok (.getfield 11, 3) := dk_180 0 11 (dk_at dksX2_insert_2 0 rfl rfl)
theorem dX2_insert_51 : decode cX2_insert 51 = .ok (.arraylength, 1) := dk_190 (dk_at dksX2_insert_2 3 rfl rfl)
theorem dX2_insert_52 : decode cX2_insert 52 = .ok (.iconst 1, 1) := dk_4 (dk_at dksX2_insert_2 4 rfl rfl)
theorem dX2_insert_53 : decode cX2_insert 53 = .ok (.isub, 1) := dk_100 (dk_at dksX2_insert_2 5 rfl rfl)
theorem dX2_insert_54 : decode cX2_insert 54 = .ok (.imul, 1) := dk_104 (dk_at dksX2_insert_2 6 rfl rfl)
theorem dX2_insert_55 : decode cX2_insert 55 = .ok (.invokevirtual 33, 3) := dk_182 0 33 (dk_at dksX2_insert_2 7 rfl rfl)
theorem dX2_insert_58 : decode cX2_insert 58 = .ok (.aload_n 0, 1) := dk_42 (dk_at dksX2_insert_2 10 rfl rfl)
theorem dX2_insert_59 : decode cX2_insert 59 = .ok (.getfield 11, 3) := dk_180 0 11 (dk_at dksX2_insert_2 11 rfl rfl)
theorem dX2_insert_62 : decode cX2_insert 62 = .ok (.aload_n 0, 1) := dk_42 (dk_at dksX2_insert_2 14 rfl rfl)
theorem dX2_insert_63 : decode cX2_insert 63 = .ok (.dup, 1) := dk_89 (dk_at dksX2_insert_2 15 rfl rfl)
theorem dX2_insert_64 : decode cX2_insert 64 = .ok (.getfield 17, 3) := dk_180 0 17 (dk_at dksX2_insert_2 16 rfl rfl)
theorem dX2_insert_67 : decode cX2_insert 67 = .ok (.iconst 1, 1) := dk_4 (dk_at dksX2_insert_2 19 rfl rfl)
theorem dX2_insert_68 : decode cX2_insert 68 = .ok (.iadd, 1) := dk_96 (dk_at dksX2_insert_2 20 rfl rfl)
theorem dX2_insert_69 : decode cX2_insert 69 = .ok (.dup_x1, 1) := dk_90 (dk_at dksX2_insert_2 21 rfl rfl)
theorem dX2_insert_70 : decode cX2_insert 70 = .ok (.putfield 17, 3) := dk_181 0 17 (dk_at dksX2_insert_3 0 rfl rfl)
theorem dX2_insert_73 : decode cX2_insert 73 = .ok (.aload_n 1, 1) := dk_43 (dk_at dksX2_insert_3 3 rfl rfl)
theorem dX2_insert_74 : decode cX2_insert 74 = .ok (.aastore, 1) := dk_83 (dk_at dksX2_insert_3 4 rfl rfl)
theorem dX2_insert_75 : decode cX2_insert 75 = .ok (.aload_n 0, 1) := dk_42 (dk_at dksX2_insert_3 5 rfl rfl)
theorem dX2_insert_76 : decode cX2_insert 76 = .ok (.getfield 37, 3) := dk_180 0 37 (dk_at dksX2_insert_3 6 rfl rfl)
theorem dX2_insert_79 : decode cX2_insert 79 = .ok (.ifnonnull 14, 3) := dk_199 0 14 (dk_at dksX2_insert_3 9 rfl rfl)
theorem dX2_insert_82 : decode cX2_insert 82 = .ok (.aload_n 0, 1) := dk_42 (dk_at dksX2_insert_3 12 rfl rfl)
theorem dX2_insert_83 : decode cX2_insert 83 = .ok (.aload_n 0, 1) := dk_42 (dk_at dksX2_insert_3 13 rfl rfl)
theorem dX2_insert_84 : decode cX2_insert 84 = .ok (.getfield 17, 3) := dk_180 0 17 (dk_at dksX2_insert_3 14 rfl rfl)
theorem dX2_insert_87 : decode cX2_insert 87 = .ok (.invokevirtual 41, 3) := dk_182 0 41 (dk_at dksX2_insert_3 17 rfl rfl)
theorem dX2_insert_90 : decode cX2_insert 90 = .ok (.goto 11, 3) := dk_167 0 11 (dk_at dksX2_insert_3 20 rfl rfl)
theorem dX2_insert_93 : decode cX2_insert 93 = .ok (.aload_n 0, 1) := dk_42 (dk_at dksX2_insert_3 23 rfl rfl)
theorem dX2_insert_94 : decode cX2_insert 94 = .ok (.aload_n 0, 1) := dk_42 (dk_at dksX2_insert_4 0 rfl rfl)
theorem dX2_insert_95 : decode cX2_insert 95 = .ok (.getfield 17, 3) := dk_180 0 17 (dk_at dksX2_insert_4 1 rfl rfl)
theorem dX2_insert_98 : decode cX2_insert 98 = .ok (.invokevirtual 44, 3) := dk_182 0 44 (dk_at dksX2_insert_4 4 rfl rfl)
theorem dX2_insert_101 : decode cX2_insert 101 = .ok (.return_, 1) := dk_177 (dk_at dksX2_insert_4 7 rfl rfl)
abbrev cX2_findMin : ByteArray := prog_1_method_3_code
def yX2_findMin : MethodName := ⟨RX2, "findMin", "()Ljava/lang/Object;"⟩
def dkwX2_findMin_0 : List UInt8 := [42, 180, 0, 17, 154, 0, 11, 187, 0, 21, 89, 183, 0, 23, 191, 42, 180, 0, 11, 4, 50, 176]
abbrev dktX2_findMin_0 : List UInt8 := dkwX2_findMin_0 ++ []
theorem dksX2_findMin_0 : cX2_findMin.data.toList.drop 0 = dktX2_findMin_0 := by decide +kernel
theorem dX2_findMin_0 : decode cX2_findMin 0 = .ok (.aload_n 0, 1) := dk_42 (dk_at dksX2_findMin_0 0 rfl rfl)
theorem dX2_findMin_1 : decode cX2_findMin 1 = .ok (.getfield 17, 3) := dk_180 0 17 (dk_at dksX2_findMin_0 1 rfl rfl)
theorem dX2_findMin_4 : decode cX2_findMin 4 = .ok (.ifCond .ne 11, 3) := dk_154 0 11 (dk_at dksX2_findMin_0 4 rfl rfl)
theorem dX2_findMin_7 : decode cX2_findMin 7 = .ok (.new 21, 3) := dk_187 0 21 (dk_at dksX2_findMin_0 7 rfl rfl)
theorem dX2_findMin_10 : decode cX2_findMin 10 = .ok (.dup, 1) := dk_89 (dk_at dksX2_findMin_0 10 rfl rfl)
theorem dX2_findMin_11 : decode cX2_findMin 11 = .ok (.invokespecial 23, 3) := dk_183 0 23 (dk_at dksX2_findMin_0 11 rfl rfl)
theorem dX2_findMin_14 : decode cX2_findMin 14 = .ok (.athrow, 1) := dk_191 (dk_at dksX2_findMin_0 14 rfl rfl)
theorem dX2_findMin_15 : decode cX2_findMin 15 = .ok (.aload_n 0, 1) := dk_42 (dk_at dksX2_findMin_0 15 rfl rfl)
theorem dX2_findMin_16 : decode cX2_findMin 16 = .ok (.getfield 11, 3) := dk_180 0 11 (dk_at dksX2_findMin_0 16 rfl rfl)
theorem dX2_findMin_19 : decode cX2_findMin 19 = .ok (.iconst 1, 1) := dk_4 (dk_at dksX2_findMin_0 19 rfl rfl)
theorem dX2_findMin_20 : decode cX2_findMin 20 = .ok (.aaload, 1) := dk_50 (dk_at dksX2_findMin_0 20 rfl rfl)
theorem dX2_findMin_21 : decode cX2_findMin 21 = .ok (.areturn, 1) := dk_176 (dk_at dksX2_findMin_0 21 rfl rfl)
abbrev cX2_deleteMin : ByteArray := prog_1_method_5_code
def yX2_deleteMin : MethodName := ⟨RX2, "deleteMin", "()Ljava/lang/Object;"⟩
def dkwX2_deleteMin_5 : List UInt8 := [163, 0, 20, 7, 42, 180, 0, 17, 104, 28, 162, 0, 10, 42, 28, 5, 108, 182, 0, 33, 43, 176]
abbrev dktX2_deleteMin_5 : List UInt8 := dkwX2_deleteMin_5 ++ []
def dkwX2_deleteMin_4 : List UInt8 := [167, 0, 8, 42, 4, 182, 0, 50, 42, 180, 0, 11, 190, 4, 100, 61, 5, 42, 180, 0, 53, 104, 28]
abbrev dktX2_deleteMin_4 : List UInt8 := dkwX2_deleteMin_4 ++ dktX2_deleteMin_5
def dkwX2_deleteMin_3 : List UInt8 := [42, 89, 180, 0, 17, 4, 100, 181, 0, 17, 42, 180, 0, 37, 199, 0, 11, 42, 4, 182, 0, 47]
abbrev dktX2_deleteMin_3 : List UInt8 := dkwX2_deleteMin_3 ++ dktX2_deleteMin_4
def dkwX2_deleteMin_2 : List UInt8 := [180, 0, 11, 4, 42, 180, 0, 11, 42, 180, 0, 17, 50, 83, 42, 180, 0, 11, 42, 180, 0, 17, 1, 83]
abbrev dktX2_deleteMin_2 : List UInt8 := dkwX2_deleteMin_2 ++ dktX2_deleteMin_3
def dkwX2_deleteMin_1 : List UInt8 := [180, 0, 17, 4, 160, 0, 18, 42, 180, 0, 11, 4, 1, 83, 42, 3, 181, 0, 17, 167, 0, 58, 42]
abbrev dktX2_deleteMin_1 : List UInt8 := dkwX2_deleteMin_1 ++ dktX2_deleteMin_2
def dkwX2_deleteMin_0 : List UInt8 := [42, 180, 0, 17, 154, 0, 11, 187, 0, 21, 89, 183, 0, 23, 191, 42, 180, 0, 11, 4, 50, 76, 42]
abbrev dktX2_deleteMin_0 : List UInt8 := dkwX2_deleteMin_0 ++ dktX2_deleteMin_1
theorem dksX2_deleteMin_0 : cX2_deleteMin.data.toList.drop 0 = dktX2_deleteMin_0 := by decide +kernel
theorem dksX2_deleteMin_1 : cX2_deleteMin.data.toList.drop 23 = dktX2_deleteMin_1 := dk_seg dksX2_deleteMin_0 23 rfl rfl
theorem dksX2_deleteMin_2 : cX2_deleteMin.data.toList.drop 46 = dktX2_deleteMin_2 := dk_seg dksX2_deleteMin_1 23 rfl rfl
theorem dksX2_deleteMin_3 : cX2_deleteMin.data.toList.drop 70 = dktX2_deleteMin_3 := dk_seg dksX2_deleteMin_2 24 rfl rfl
theorem dksX2_deleteMin_4 : cX2_deleteMin.data.toList.drop 92 = dktX2_deleteMin_4 := dk_seg dksX2_deleteMin_3 22 rfl rfl
theorem dksX2_deleteMin_5 : cX2_deleteMin.data.toList.drop 115 = dktX2_deleteMin_5 := dk_seg dksX2_deleteMin_4 23 rfl rfl
theorem dX2_deleteMin_0 : decode cX2_deleteMin 0 = .ok (.aload_n 0, 1) := dk_42 (dk_at dksX2_deleteMin_0 0 rfl rfl)
theorem dX2_deleteMin_1 : decode cX2_deleteMin 1 = .ok (.getfield 17, 3) := dk_180 0 17 (dk_at dksX2_deleteMin_0 1 rfl rfl)
theorem dX2_deleteMin_4 : decode cX2_deleteMin 4 = .ok (.ifCond .ne 11, 3) := dk_154 0 11 (dk_at dksX2_deleteMin_0 4 rfl rfl)
theorem dX2_deleteMin_7 : decode cX2_deleteMin 7 = .ok (.new 21, 3) := dk_187 0 21 (dk_at dksX2_deleteMin_0 7 rfl rfl)
theorem dX2_deleteMin_10 : decode cX2_deleteMin 10 = .ok (.dup, 1) := dk_89 (dk_at dksX2_deleteMin_0 10 rfl rfl)
theorem dX2_deleteMin_11 : decode cX2_deleteMin 11 = .ok (.invokespecial 23, 3) := dk_183 0 23 (dk_at dksX2_deleteMin_0 11 rfl rfl)
theorem dX2_deleteMin_14 : decode cX2_deleteMin 14 = .ok (.athrow, 1) := dk_191 (dk_at dksX2_deleteMin_0 14 rfl rfl)
theorem dX2_deleteMin_15 : decode cX2_deleteMin 15 = .ok (.aload_n 0, 1) := dk_42 (dk_at dksX2_deleteMin_0 15 rfl rfl)
theorem dX2_deleteMin_16 : decode cX2_deleteMin 16 = .ok (.getfield 11, 3) := dk_180 0 11 (dk_at dksX2_deleteMin_0 16 rfl rfl)
theorem dX2_deleteMin_19 : decode cX2_deleteMin 19 = .ok (.iconst 1, 1) := dk_4 (dk_at dksX2_deleteMin_0 19 rfl rfl)
theorem dX2_deleteMin_20 : decode cX2_deleteMin 20 = .ok (.aaload, 1) := dk_50 (dk_at dksX2_deleteMin_0 20 rfl rfl)
theorem dX2_deleteMin_21 : decode cX2_deleteMin 21 = .ok (.astore_n 1, 1) := dk_76 (dk_at dksX2_deleteMin_0 21 rfl rfl)
theorem dX2_deleteMin_22 : decode cX2_deleteMin 22 = .ok (.aload_n 0, 1) := dk_42 (dk_at dksX2_deleteMin_0 22 rfl rfl)
theorem dX2_deleteMin_23 : decode cX2_deleteMin 23 = .ok (.getfield 17, 3) := dk_180 0 17 (dk_at dksX2_deleteMin_1 0 rfl rfl)
theorem dX2_deleteMin_26 : decode cX2_deleteMin 26 = .ok (.iconst 1, 1) := dk_4 (dk_at dksX2_deleteMin_1 3 rfl rfl)
theorem dX2_deleteMin_27 : decode cX2_deleteMin 27 = .ok (.if_icmp .ne 18, 3) := dk_160 0 18 (dk_at dksX2_deleteMin_1 4 rfl rfl)
theorem dX2_deleteMin_30 : decode cX2_deleteMin 30 = .ok (.aload_n 0, 1) := dk_42 (dk_at dksX2_deleteMin_1 7 rfl rfl)
theorem dX2_deleteMin_31 : decode cX2_deleteMin 31 = .ok (.getfield 11, 3) := dk_180 0 11 (dk_at dksX2_deleteMin_1 8 rfl rfl)
theorem dX2_deleteMin_34 : decode cX2_deleteMin 34 = .ok (.iconst 1, 1) := dk_4 (dk_at dksX2_deleteMin_1 11 rfl rfl)
theorem dX2_deleteMin_35 : decode cX2_deleteMin 35 = .ok (.aconst_null, 1) := dk_1 (dk_at dksX2_deleteMin_1 12 rfl rfl)
theorem dX2_deleteMin_36 : decode cX2_deleteMin 36 = .ok (.aastore, 1) := dk_83 (dk_at dksX2_deleteMin_1 13 rfl rfl)
theorem dX2_deleteMin_37 : decode cX2_deleteMin 37 = .ok (.aload_n 0, 1) := dk_42 (dk_at dksX2_deleteMin_1 14 rfl rfl)
theorem dX2_deleteMin_38 : decode cX2_deleteMin 38 = .ok (.iconst 0, 1) := dk_3 (dk_at dksX2_deleteMin_1 15 rfl rfl)
theorem dX2_deleteMin_39 : decode cX2_deleteMin 39 = .ok (.putfield 17, 3) := dk_181 0 17 (dk_at dksX2_deleteMin_1 16 rfl rfl)
theorem dX2_deleteMin_42 : decode cX2_deleteMin 42 = .ok (.goto 58, 3) := dk_167 0 58 (dk_at dksX2_deleteMin_1 19 rfl rfl)
theorem dX2_deleteMin_45 : decode cX2_deleteMin 45 = .ok (.aload_n 0, 1) := dk_42 (dk_at dksX2_deleteMin_1 22 rfl rfl)
theorem dX2_deleteMin_46 : decode cX2_deleteMin 46 = .ok (.getfield 11, 3) := dk_180 0 11 (dk_at dksX2_deleteMin_2 0 rfl rfl)
theorem dX2_deleteMin_49 : decode cX2_deleteMin 49 = .ok (.iconst 1, 1) := dk_4 (dk_at dksX2_deleteMin_2 3 rfl rfl)
theorem dX2_deleteMin_50 : decode cX2_deleteMin 50 = .ok (.aload_n 0, 1) := dk_42 (dk_at dksX2_deleteMin_2 4 rfl rfl)
theorem dX2_deleteMin_51 : decode cX2_deleteMin 51 = .ok (.getfield 11, 3) := dk_180 0 11 (dk_at dksX2_deleteMin_2 5 rfl rfl)
theorem dX2_deleteMin_54 : decode cX2_deleteMin 54 = .ok (.aload_n 0, 1) := dk_42 (dk_at dksX2_deleteMin_2 8 rfl rfl)
theorem dX2_deleteMin_55 : decode cX2_deleteMin 55 = .ok (.getfield 17, 3) := dk_180 0 17 (dk_at dksX2_deleteMin_2 9 rfl rfl)
theorem dX2_deleteMin_58 : decode cX2_deleteMin 58 = .ok (.aaload, 1) := dk_50 (dk_at dksX2_deleteMin_2 12 rfl rfl)
theorem dX2_deleteMin_59 : decode cX2_deleteMin 59 = .ok (.aastore, 1) := dk_83 (dk_at dksX2_deleteMin_2 13 rfl rfl)
theorem dX2_deleteMin_60 : decode cX2_deleteMin 60 = .ok (.aload_n 0, 1) := dk_42 (dk_at dksX2_deleteMin_2 14 rfl rfl)
theorem dX2_deleteMin_61 : decode cX2_deleteMin 61 = .ok (.getfield 11, 3) := dk_180 0 11 (dk_at dksX2_deleteMin_2 15 rfl rfl)
theorem dX2_deleteMin_64 : decode cX2_deleteMin 64 = .ok (.aload_n 0, 1) := dk_42 (dk_at dksX2_deleteMin_2 18 rfl rfl)
theorem dX2_deleteMin_65 : decode cX2_deleteMin 65 = .ok (.getfield 17, 3) := dk_180 0 17 (dk_at dksX2_deleteMin_2 19 rfl rfl)
theorem dX2_deleteMin_68 : decode cX2_deleteMin 68 = .ok (.aconst_null, 1) := dk_1 (dk_at dksX2_deleteMin_2 22 rfl rfl)
theorem dX2_deleteMin_69 : decode cX2_deleteMin 69 = .ok (.aastore, 1) := dk_83 (dk_at dksX2_deleteMin_2 23 rfl rfl)
theorem dX2_deleteMin_70 : decode cX2_deleteMin 70 = .ok (.aload_n 0, 1) := dk_42 (dk_at dksX2_deleteMin_3 0 rfl rfl)
theorem dX2_deleteMin_71 : decode cX2_deleteMin 71 = .ok (.dup, 1) := dk_89 (dk_at dksX2_deleteMin_3 1 rfl rfl)
theorem dX2_deleteMin_72 : decode cX2_deleteMin 72 = .ok (.getfield 17, 3) := dk_180 0 17 (dk_at dksX2_deleteMin_3 2 rfl rfl)
theorem dX2_deleteMin_75 : decode cX2_deleteMin 75 = .ok (.iconst 1, 1) := dk_4 (dk_at dksX2_deleteMin_3 5 rfl rfl)
theorem dX2_deleteMin_76 : decode cX2_deleteMin 76 = .ok (.isub, 1) := dk_100 (dk_at dksX2_deleteMin_3 6 rfl rfl)
theorem dX2_deleteMin_77 : decode cX2_deleteMin 77 = .ok (.putfield 17, 3) := dk_181 0 17 (dk_at dksX2_deleteMin_3 7 rfl rfl)
theorem dX2_deleteMin_80 : decode cX2_deleteMin 80 = .ok (.aload_n 0, 1) := dk_42 (dk_at dksX2_deleteMin_3 10 rfl rfl)
theorem dX2_deleteMin_81 : decode cX2_deleteMin 81 = .ok (.getfield 37, 3) := dk_180 0 37 (dk_at dksX2_deleteMin_3 11 rfl rfl)
theorem dX2_deleteMin_84 : decode cX2_deleteMin 84 = .ok (.ifnonnull 11, 3) := dk_199 0 11 (dk_at dksX2_deleteMin_3 14 rfl rfl)
theorem dX2_deleteMin_87 : decode cX2_deleteMin 87 = .ok (.aload_n 0, 1) := dk_42 (dk_at dksX2_deleteMin_3 17 rfl rfl)
theorem dX2_deleteMin_88 : decode cX2_deleteMin 88 = .ok (.iconst 1, 1) := dk_4 (dk_at dksX2_deleteMin_3 18 rfl rfl)
theorem dX2_deleteMin_89 : decode cX2_deleteMin 89 = .ok (.invokevirtual 47, 3) := dk_182 0 47 (dk_at dksX2_deleteMin_3 19 rfl rfl)
theorem dX2_deleteMin_92 : decode cX2_deleteMin 92 = .ok (.goto 8, 3) := dk_167 0 8 (dk_at dksX2_deleteMin_4 0 rfl rfl)
theorem dX2_deleteMin_95 : decode cX2_deleteMin 95 = .ok (.aload_n 0, 1) := dk_42 (dk_at dksX2_deleteMin_4 3 rfl rfl)
theorem dX2_deleteMin_96 : decode cX2_deleteMin 96 = .ok (.iconst 1, 1) := dk_4 (dk_at dksX2_deleteMin_4 4 rfl rfl)
theorem dX2_deleteMin_97 : decode cX2_deleteMin 97 = .ok (.invokevirtual 50, 3) := dk_182 0 50 (dk_at dksX2_deleteMin_4 5 rfl rfl)
theorem dX2_deleteMin_100 : decode cX2_deleteMin 100 = .ok (.aload_n 0, 1) := dk_42 (dk_at dksX2_deleteMin_4 8 rfl rfl)
theorem dX2_deleteMin_101 : decode cX2_deleteMin 101 = .ok (.getfield 11, 3) := dk_180 0 11 (dk_at dksX2_deleteMin_4 9 rfl rfl)
theorem dX2_deleteMin_104 : decode cX2_deleteMin 104 = .ok (.arraylength, 1) := dk_190 (dk_at dksX2_deleteMin_4 12 rfl rfl)
theorem dX2_deleteMin_105 : decode cX2_deleteMin 105 = .ok (.iconst 1, 1) := dk_4 (dk_at dksX2_deleteMin_4 13 rfl rfl)
theorem dX2_deleteMin_106 : decode cX2_deleteMin 106 = .ok (.isub, 1) := dk_100 (dk_at dksX2_deleteMin_4 14 rfl rfl)
theorem dX2_deleteMin_107 : decode cX2_deleteMin 107 = .ok (.istore_n 2, 1) := dk_61 (dk_at dksX2_deleteMin_4 15 rfl rfl)
theorem dX2_deleteMin_108 : decode cX2_deleteMin 108 = .ok (.iconst 2, 1) := dk_5 (dk_at dksX2_deleteMin_4 16 rfl rfl)
theorem dX2_deleteMin_109 : decode cX2_deleteMin 109 = .ok (.aload_n 0, 1) := dk_42 (dk_at dksX2_deleteMin_4 17 rfl rfl)
theorem dX2_deleteMin_110 : decode cX2_deleteMin 110 = .ok (.getfield 53, 3) := dk_180 0 53 (dk_at dksX2_deleteMin_4 18 rfl rfl)
theorem dX2_deleteMin_113 : decode cX2_deleteMin 113 = .ok (.imul, 1) := dk_104 (dk_at dksX2_deleteMin_4 21 rfl rfl)
theorem dX2_deleteMin_114 : decode cX2_deleteMin 114 = .ok (.iload_n 2, 1) := dk_28 (dk_at dksX2_deleteMin_4 22 rfl rfl)
theorem dX2_deleteMin_115 : decode cX2_deleteMin 115 = .ok (.if_icmp .gt 20, 3) := dk_163 0 20 (dk_at dksX2_deleteMin_5 0 rfl rfl)
theorem dX2_deleteMin_118 : decode cX2_deleteMin 118 = .ok (.iconst 4, 1) := dk_7 (dk_at dksX2_deleteMin_5 3 rfl rfl)
theorem dX2_deleteMin_119 : decode cX2_deleteMin 119 = .ok (.aload_n 0, 1) := dk_42 (dk_at dksX2_deleteMin_5 4 rfl rfl)
theorem dX2_deleteMin_120 : decode cX2_deleteMin 120 = .ok (.getfield 17, 3) := dk_180 0 17 (dk_at dksX2_deleteMin_5 5 rfl rfl)
theorem dX2_deleteMin_123 : decode cX2_deleteMin 123 = .ok (.imul, 1) := dk_104 (dk_at dksX2_deleteMin_5 8 rfl rfl)
theorem dX2_deleteMin_124 : decode cX2_deleteMin 124 = .ok (.iload_n 2, 1) := dk_28 (dk_at dksX2_deleteMin_5 9 rfl rfl)
theorem dX2_deleteMin_125 : decode cX2_deleteMin 125 = .ok (.if_icmp .ge 10, 3) := dk_162 0 10 (dk_at dksX2_deleteMin_5 10 rfl rfl)
theorem dX2_deleteMin_128 : decode cX2_deleteMin 128 = .ok (.aload_n 0, 1) := dk_42 (dk_at dksX2_deleteMin_5 13 rfl rfl)
theorem dX2_deleteMin_129 : decode cX2_deleteMin 129 = .ok (.iload_n 2, 1) := dk_28 (dk_at dksX2_deleteMin_5 14 rfl rfl)
theorem dX2_deleteMin_130 : decode cX2_deleteMin 130 = .ok (.iconst 2, 1) := dk_5 (dk_at dksX2_deleteMin_5 15 rfl rfl)
theorem dX2_deleteMin_131 : decode cX2_deleteMin 131 = .ok (.idiv, 1) := dk_108 (dk_at dksX2_deleteMin_5 16 rfl rfl)
theorem dX2_deleteMin_132 : decode cX2_deleteMin 132 = .ok (.invokevirtual 33, 3) := dk_182 0 33 (dk_at dksX2_deleteMin_5 17 rfl rfl)
theorem dX2_deleteMin_135 : decode cX2_deleteMin 135 = .ok (.aload_n 1, 1) := dk_43 (dk_at dksX2_deleteMin_5 20 rfl rfl)
theorem dX2_deleteMin_136 : decode cX2_deleteMin 136 = .ok (.areturn, 1) := dk_176 (dk_at dksX2_deleteMin_5 21 rfl rfl)
theorem q6 : (Jvm.Cond.initialized "AbstractArrayHeap") ∈ lw_all := lw_g (lw_at lw_m1 3 rfl) rfl
theorem q44 : (Jvm.Cond.instanceMethod ({ cls := "AbstractArrayHeap", name := "<init>", desc := "(Ljava/util/Comparator;I)V" } : Jvm.MethodName)) ∈ lw_all := lw_g (lw_at lw_m1 41 rfl) rfl
theorem q45 : (Jvm.Cond.code ({ cls := "AbstractArrayHeap", name := "<init>", desc := "(Ljava/util/Comparator;I)V" } : Jvm.MethodName) prog_1_method_1_code (3 : Nat) (Option.none : Option Jvm.ClassFile.FieldType)) ∈ lw_all := lw_g (lw_at lw_m1 42 rfl) rfl
theorem q46 : (Jvm.Cond.methodLink "AbstractArrayHeap" (3 : Nat) ({ cls := "AbstractArrayWeakHeap", name := "<init>", desc := "(Ljava/util/Comparator;I)V" } : Jvm.MethodName)) ∈ lw_all := lw_g (lw_at lw_m1 43 rfl) rfl
theorem q145 : (Jvm.Cond.instanceMethod ({ cls := "AbstractArrayHeap", name := "initCapacity", desc := "(I)V" } : Jvm.MethodName)) ∈ lw_all := lw_g (lw_at lw_m1 142 rfl) rfl
theorem q146 : (Jvm.Cond.code ({ cls := "AbstractArrayHeap", name := "initCapacity", desc := "(I)V" } : Jvm.MethodName) prog_1_method_2_code (2 : Nat) (Option.none : Option Jvm.ClassFile.FieldType)) ∈ lw_all := lw_g (lw_at lw_m1 143 rfl) rfl
theorem q147 : (Jvm.Cond.classLink "AbstractArrayHeap" (9 : Nat) "java/lang/Object") ∈ lw_all := lw_g (lw_at lw_m1 144 rfl) rfl
theorem q154 : (Jvm.Cond.fieldLink "AbstractArrayHeap" (37 : Nat) "AbstractArrayHeap" "comparator" "Ljava/util/Comparator;") ∈ lw_all := lw_g (lw_at lw_m1 151 rfl) rfl
theorem q155 : (Jvm.Cond.sameField "AbstractArrayHeap" "AbstractArrayWeakHeap" "comparator" "Ljava/util/Comparator;") ∈ lw_all := lw_g (lw_at lw_m1 152 rfl) rfl
theorem q158 : (Jvm.Cond.fieldLink "AbstractArrayHeap" (11 : Nat) "AbstractArrayHeap" "array" "[Ljava/lang/Object;") ∈ lw_all := lw_g (lw_at lw_m1 155 rfl) rfl
theorem q159 : (Jvm.Cond.sameField "AbstractArrayHeap" "AbstractArrayWeakHeap" "array" "[Ljava/lang/Object;") ∈ lw_all := lw_g (lw_at lw_m1 156 rfl) rfl
theorem q163 : (Jvm.Cond.fieldLink "AbstractArrayHeap" (17 : Nat) "AbstractArrayHeap" "size" "I") ∈ lw_all := lw_g (lw_at lw_m1 160 rfl) rfl
theorem q164 : (Jvm.Cond.sameField "AbstractArrayHeap" "AbstractArrayWeakHeap" "size" "I") ∈ lw_all := lw_g (lw_at lw_m1 161 rfl) rfl
theorem q168 : (Jvm.Cond.fieldLink "AbstractArrayHeap" (53 : Nat) "AbstractArrayHeap" "minCapacity" "I") ∈ lw_all := lw_g (lw_at lw_m1 165 rfl) rfl
theorem q169 : (Jvm.Cond.sameField "AbstractArrayHeap" "AbstractArrayWeakHeap" "minCapacity" "I") ∈ lw_all := lw_g (lw_at lw_m1 166 rfl) rfl
theorem q220 : (Jvm.Cond.declares ({ cls := "AbstractArrayHeap", name := "insert", desc := "(Ljava/lang/Object;)V" } : Jvm.MethodName)) ∈ lw_tbl := lw_at lw_m1 217 rfl
theorem q222 : (Jvm.Cond.instanceMethod ({ cls := "AbstractArrayHeap", name := "insert", desc := "(Ljava/lang/Object;)V" } : Jvm.MethodName)) ∈ lw_all := lw_g (lw_at lw_m1 219 rfl) rfl
theorem q223 : (Jvm.Cond.code ({ cls := "AbstractArrayHeap", name := "insert", desc := "(Ljava/lang/Object;)V" } : Jvm.MethodName) prog_1_method_4_code (2 : Nat) (Option.none : Option Jvm.ClassFile.FieldType)) ∈ lw_all := lw_g (lw_at lw_m1 220 rfl) rfl
theorem q224 : (Jvm.Cond.classLink "AbstractArrayHeap" (26 : Nat) "java/lang/NullPointerException") ∈ lw_all := lw_g (lw_at lw_m1 221 rfl) rfl
theorem q225 : (Jvm.Cond.stringRef "AbstractArrayHeap" (28 : Nat) "Null keys not permitted") ∈ lw_tbl := lw_at lw_m1 222 rfl
theorem q226 : (Jvm.Cond.methodLink "AbstractArrayHeap" (30 : Nat) ({ cls := "java/lang/NullPointerException", name := "<init>", desc := "(Ljava/lang/String;)V" } : Jvm.MethodName)) ∈ lw_all := lw_g (lw_at lw_m1 223 rfl) rfl
theorem q242 : (Jvm.Cond.methodLink "AbstractArrayHeap" (33 : Nat) ({ cls := "AbstractArrayHeap", name := "ensureCapacity", desc := "(I)V" } : Jvm.MethodName)) ∈ lw_all := lw_g (lw_at lw_m1 239 rfl) rfl
theorem q243 : (Jvm.Cond.sameMethod "AbstractArrayHeap" "AbstractArrayWeakHeap" "ensureCapacity" "(I)V") ∈ lw_all := lw_g (lw_at lw_m2 0 rfl) rfl
theorem q256 : (Jvm.Cond.methodLink "AbstractArrayHeap" (41 : Nat) ({ cls := "AbstractArrayHeap", name := "fixup", desc := "(I)V" } : Jvm.MethodName)) ∈ lw_all := lw_g (lw_at lw_m2 13 rfl) rfl
theorem q257 : (Jvm.Cond.sameMethod "AbstractArrayHeap" "AbstractArrayWeakHeap" "fixup" "(I)V") ∈ lw_all := lw_g (lw_at lw_m2 14 rfl) rfl
theorem q271 : (Jvm.Cond.methodLink "AbstractArrayHeap" (44 : Nat) ({ cls := "AbstractArrayHeap", name := "fixupWithComparator", desc := "(I)V" } : Jvm.MethodName)) ∈ lw_all := lw_g (lw_at lw_m2 28 rfl) rfl
theorem q272 : (Jvm.Cond.sameMethod "AbstractArrayHeap" "AbstractArrayWeakHeap" "fixupWithComparator" "(I)V") ∈ lw_all := lw_g (lw_at lw_m2 29 rfl) rfl
theorem q331 : (Jvm.Cond.declares ({ cls := "AbstractArrayHeap", name := "findMin", desc := "()Ljava/lang/Object;" } : Jvm.MethodName)) ∈ lw_tbl := lw_at lw_m2 88 rfl
theorem q333 : (Jvm.Cond.instanceMethod ({ cls := "AbstractArrayHeap", name := "findMin", desc := "()Ljava/lang/Object;" } : Jvm.MethodName)) ∈ lw_all := lw_g (lw_at lw_m2 90 rfl) rfl
theorem q334 : (Jvm.Cond.code ({ cls := "AbstractArrayHeap", name := "findMin", desc := "()Ljava/lang/Object;" } : Jvm.MethodName) prog_1_method_3_code (1 : Nat) (Option.some (Jvm.ClassFile.FieldType.object "java/lang/Object"))) ∈ lw_all := lw_g (lw_at lw_m2 91 rfl) rfl
theorem q335 : (Jvm.Cond.classLink "AbstractArrayHeap" (21 : Nat) "java/util/NoSuchElementException") ∈ lw_all := lw_g (lw_at lw_m2 92 rfl) rfl
theorem q344 : (Jvm.Cond.methodLink "AbstractArrayHeap" (23 : Nat) ({ cls := "java/util/NoSuchElementException", name := "<init>", desc := "()V" } : Jvm.MethodName)) ∈ lw_all := lw_g (lw_at lw_m2 101 rfl) rfl
theorem q362 : (Jvm.Cond.declares ({ cls := "AbstractArrayHeap", name := "deleteMin", desc := "()Ljava/lang/Object;" } : Jvm.MethodName)) ∈ lw_tbl := lw_at lw_m2 119 rfl
theorem q364 : (Jvm.Cond.instanceMethod ({ cls := "AbstractArrayHeap", name := "deleteMin", desc := "()Ljava/lang/Object;" } : Jvm.MethodName)) ∈ lw_all := lw_g (lw_at lw_m2 121 rfl) rfl
theorem q365 : (Jvm.Cond.code ({ cls := "AbstractArrayHeap", name := "deleteMin", desc := "()Ljava/lang/Object;" } : Jvm.MethodName) prog_1_method_5_code (3 : Nat) (Option.some (Jvm.ClassFile.FieldType.object "java/lang/Object"))) ∈ lw_all := lw_g (lw_at lw_m2 122 rfl) rfl
theorem q366 : (Jvm.Cond.methodLink "AbstractArrayHeap" (47 : Nat) ({ cls := "AbstractArrayHeap", name := "fixdown", desc := "(I)V" } : Jvm.MethodName)) ∈ lw_all := lw_g (lw_at lw_m2 123 rfl) rfl
theorem q367 : (Jvm.Cond.sameMethod "AbstractArrayHeap" "AbstractArrayWeakHeap" "fixdown" "(I)V") ∈ lw_all := lw_g (lw_at lw_m2 124 rfl) rfl
theorem q370 : (Jvm.Cond.methodLink "AbstractArrayHeap" (50 : Nat) ({ cls := "AbstractArrayHeap", name := "fixdownWithComparator", desc := "(I)V" } : Jvm.MethodName)) ∈ lw_all := lw_g (lw_at lw_m2 127 rfl) rfl
theorem q371 : (Jvm.Cond.sameMethod "AbstractArrayHeap" "AbstractArrayWeakHeap" "fixdownWithComparator" "(I)V") ∈ lw_all := lw_g (lw_at lw_m2 128 rfl) rfl
/-! DaryArrayHeap -/
set_option maxRecDepth 100000
def RX3 : String := "DaryArrayHeap"
def TX3 : u_T := fun k => match k with
  | 0 => ("AbstractArrayWeakHeap", "comparator", "Ljava/util/Comparator;", true)
  | 1 => ("AbstractArrayWeakHeap", "array", "[Ljava/lang/Object;", false)
  | 2 => ("AbstractArrayWeakHeap", "size", "I", false)
  | 3 => ("AbstractArrayWeakHeap", "minCapacity", "I", true)
  | _ => ("DaryArrayHeap", "d", "I", false)
def tyX3 : Nat → FieldType := fun k => match k with
  | 0 => .object "java/util/Comparator"
  | 1 => .array (.object "java/lang/Object")
  | 2 => .int
  | 3 => .int
  | _ => .int
abbrev wsX30 : List Cond := u_ws RX3 TX3 5
theorem nmX3 : ∀ a, a < 5 → ∀ b, b < 5 → a ≠ b → (TX3 a).2.1 ≠ (TX3 b).2.1 := by decide +kernel
theorem tyX3_ok : ∀ k, k < 5 → parseFieldDescriptor (TX3 k).2.2.1 = some (tyX3 k) := by decide +kernel
abbrev cX3_init : ByteArray := prog_4_method_1_code
def yX3_init : MethodName := ⟨RX3, "<init>", "(I)V"⟩
def dkwX3_init_0 : List UInt8 := [42, 27, 1, 16, 16, 183, 0, 3, 177]
abbrev dktX3_init_0 : List UInt8 := dkwX3_init_0 ++ []
theorem dksX3_init_0 : cX3_init.data.toList.drop 0 = dktX3_init_0 := by decide +kernel
theorem dX3_init_0 : decode cX3_init 0 = .ok (.aload_n 0, 1) := dk_42 (dk_at dksX3_init_0 0 rfl rfl)
theorem dX3_init_1 : decode cX3_init 1 = .ok (.iload_n 1, 1) := dk_27 (dk_at dksX3_init_0 1 rfl rfl)
theorem dX3_init_2 : decode cX3_init 2 = .ok (.aconst_null, 1) := dk_1 (dk_at dksX3_init_0 2 rfl rfl)
theorem dX3_init_3 : decode cX3_init 3 = .ok (.bipush 16, 2) := dk_16 16 (dk_at dksX3_init_0 3 rfl rfl)
theorem dX3_init_5 : decode cX3_init 5 = .ok (.invokespecial 3, 3) := dk_183 0 3 (dk_at dksX3_init_0 5 rfl rfl)
theorem dX3_init_8 : decode cX3_init 8 = .ok (.return_, 1) := dk_177 (dk_at dksX3_init_0 8 rfl rfl)
abbrev cX3_init_2 : ByteArray := prog_4_method_4_code
def yX3_init_2 : MethodName := ⟨RX3, "<init>", "(ILjava/util/Comparator;I)V"⟩
def dkwX3_init_2_1 : List UInt8 := [181, 0, 19, 177]
abbrev dktX3_init_2_1 : List UInt8 := dkwX3_init_2_1 ++ []
def dkwX3_init_2_0 : List UInt8 := [42, 44, 29, 183, 0, 7, 27, 5, 162, 0, 13, 187, 0, 12, 89, 18, 14, 183, 0, 16, 191, 42, 27]
abbrev dktX3_init_2_0 : List UInt8 := dkwX3_init_2_0 ++ dktX3_init_2_1
theorem dksX3_init_2_0 : cX3_init_2.data.toList.drop 0 = dktX3_init_2_0 := by decide +kernel
theorem dksX3_init_2_1 : cX3_init_2.data.toList.drop 23 = dktX3_init_2_1 := dk_seg dksX3_init_2_0 23 rfl rfl
theorem dX3_init_2_0 : decode cX3_init_2 0 = .ok (.aload_n 0, 1) := dk_42 (dk_at dksX3_init_2_0 0 rfl rfl)
theorem dX3_init_2_1 : decode cX3_init_2 1 = .ok (.aload_n 2, 1) := dk_44 (dk_at dksX3_init_2_0 1 rfl rfl)
theorem dX3_init_2_2 : decode cX3_init_2 2 = .ok (.iload_n 3, 1) := dk_29 (dk_at dksX3_init_2_0 2 rfl rfl)
theorem dX3_init_2_3 : decode cX3_init_2 3 = .ok (.invokespecial 7, 3) := dk_183 0 7 (dk_at dksX3_init_2_0 3 rfl rfl)
theorem dX3_init_2_6 : decode cX3_init_2 6 = .ok (.iload_n 1, 1) := dk_27 (dk_at dksX3_init_2_0 6 rfl rfl)
theorem dX3_init_2_7 : decode cX3_init_2 7 = .ok (.iconst 2, 1) := dk_5 (dk_at dksX3_init_2_0 7 rfl rfl)
theorem dX3_init_2_8 : decode cX3_init_2 8 = .ok (.if_icmp .ge 13, 3) := dk_162 0 13 (dk_at dksX3_init_2_0 8 rfl rfl)
theorem dX3_init_2_11 : decode cX3_init_2 11 = .ok (.new 12, 3) := dk_187 0 12 (dk_at dksX3_init_2_0 11 rfl rfl)
theorem dX3_init_2_14 : decode cX3_init_2 14 = .ok (.dup, 1) := dk_89 (dk_at dksX3_init_2_0 14 rfl rfl)
theorem dX3_init_2_15 : decode cX3_init_2 15 = .ok (.ldc 14, 2) := dk_18 14 (dk_at dksX3_init_2_0 15 rfl rfl)
theorem dX3_init_2_17 : decode cX3_init_2 17 = .ok (.invokespecial 16, 3) := dk_183 0 16 (dk_at dksX3_init_2_0 17 rfl rfl)
theorem dX3_init_2_20 : decode cX3_init_2 20 = .ok (.athrow, 1) := dk_191 (dk_at dksX3_init_2_0 20 rfl rfl)
theorem dX3_init_2_21 : decode cX3_init_2 21 = .ok (.aload_n 0, 1) := dk_42 (dk_at dksX3_init_2_0 21 rfl rfl)
theorem dX3_init_2_22 : decode cX3_init_2 22 = .ok (.iload_n 1, 1) := dk_27 (dk_at dksX3_init_2_0 22 rfl rfl)
theorem dX3_init_2_23 : decode cX3_init_2 23 = .ok (.putfield 19, 3) := dk_181 0 19 (dk_at dksX3_init_2_1 0 rfl rfl)
theorem dX3_init_2_26 : decode cX3_init_2 26 = .ok (.return_, 1) := dk_177 (dk_at dksX3_init_2_1 3 rfl rfl)
abbrev cX3_init_3 : ByteArray := prog_4_method_3_code
def yX3_init_3 : MethodName := ⟨RX3, "<init>", "(ILjava/util/Comparator;)V"⟩
def dkwX3_init_3_0 : List UInt8 := [42, 27, 44, 16, 16, 183, 0, 3, 177]
abbrev dktX3_init_3_0 : List UInt8 := dkwX3_init_3_0 ++ []
theorem dksX3_init_3_0 : cX3_init_3.data.toList.drop 0 = dktX3_init_3_0 := by decide +kernel
theorem dX3_init_3_0 : decode cX3_init_3 0 = .ok (.aload_n 0, 1) := dk_42 (dk_at dksX3_init_3_0 0 rfl rfl)
theorem dX3_init_3_1 : decode cX3_init_3 1 = .ok (.iload_n 1, 1) := dk_27 (dk_at dksX3_init_3_0 1 rfl rfl)
theorem dX3_init_3_2 : decode cX3_init_3 2 = .ok (.aload_n 2, 1) := dk_44 (dk_at dksX3_init_3_0 2 rfl rfl)
theorem dX3_init_3_3 : decode cX3_init_3 3 = .ok (.bipush 16, 2) := dk_16 16 (dk_at dksX3_init_3_0 3 rfl rfl)
theorem dX3_init_3_5 : decode cX3_init_3 5 = .ok (.invokespecial 3, 3) := dk_183 0 3 (dk_at dksX3_init_3_0 5 rfl rfl)
theorem dX3_init_3_8 : decode cX3_init_3 8 = .ok (.return_, 1) := dk_177 (dk_at dksX3_init_3_0 8 rfl rfl)
abbrev cX3_ensureCapacity : ByteArray := prog_4_method_7_code
def yX3_ensureCapacity : MethodName := ⟨RX3, "ensureCapacity", "(I)V"⟩
def dkwX3_ensureCapacity_1 : List UInt8 := [184, 0, 35, 42, 44, 181, 0, 31, 177]
abbrev dktX3_ensureCapacity_1 : List UInt8 := dkwX3_ensureCapacity_1 ++ []
def dkwX3_ensureCapacity_0 : List UInt8 := [42, 27, 182, 0, 53, 27, 4, 96, 189, 0, 56, 77, 42, 180, 0, 31, 4, 44, 4, 42, 180, 0, 41]
abbrev dktX3_ensureCapacity_0 : List UInt8 := dkwX3_ensureCapacity_0 ++ dktX3_ensureCapacity_1
theorem dksX3_ensureCapacity_0 : cX3_ensureCapacity.data.toList.drop 0 = dktX3_ensureCapacity_0 := by decide +kernel
theorem dksX3_ensureCapacity_1 : cX3_ensureCapacity.data.toList.drop 23 = dktX3_ensureCapacity_1 := dk_seg dksX3_ensureCapacity_0 23 rfl rfl
theorem dX3_ensureCapacity_0 : decode cX3_ensureCapacity 0 = .ok (.aload_n 0, 1) := dk_42 (dk_at dksX3_ensureCapacity_0 0 rfl rfl)
theorem dX3_ensureCapacity_1 : decode cX3_ensureCapacity 1 = .ok (.iload_n 1, 1) := dk_27 (dk_at dksX3_ensureCapacity_0 1 rfl rfl)
theorem dX3_ensureCapacity_2 : decode cX3_ensureCapacity 2 = .ok (.invokevirtual 53, 3) := dk_182 0 53 (dk_at dksX3_ensureCapacity_0 2 rfl rfl)
theorem dX3_ensureCapacity_5 : decode cX3_ensureCapacity 5 = .ok (.iload_n 1, 1) := dk_27 (dk_at dksX3_ensureCapacity_0 5 rfl rfl)
theorem dX3_ensureCapacity_6 : decode cX3_ensureCapacity 6 = .ok (.iconst 1, 1) := dk_4 (dk_at dksX3_ensureCapacity_0 6 rfl rfl)
theorem dX3_ensureCapacity_7 : decode cX3_ensureCapacity 7 = .ok (.iadd, 1) := dk_96 (dk_at dksX3_ensureCapacity_0 7 rfl rfl)
theorem dX3_ensureCapacity_8 : decode cX3_ensureCapacity 8 = .ok (.anewarray 56, 3) := dk_189 0 56 (dk_at dksX3_ensureCapacity_0 8 rfl rfl)
theorem dX3_ensureCapacity_11 : decode cX3_ensureCapacity 11 = .ok (.astore_n 2, 1) := dk_77 (dk_at dksX3_ensureCapacity_0 11 rfl rfl)
theorem dX3_ensureCapacity_12 : decode cX3_ensureCapacity 12 = .ok (.aload_n 0, 1) := dk_42 (dk_at dksX3_ensureCapacity_0 12 rfl rfl)
theorem dX3_ensureCapacity_13 : decode cX3_ensureCapacity 13 = .ok (.getfield 31, 3) := dk_180 0 31 (dk_at dksX3_ensureCapacity_0 13 rfl rfl)
theorem dX3_ensureCapacity_16 : decode cX3_ensureCapacity 16 = .ok (.iconst 1, 1) := dk_4 (dk_at dksX3_ensureCapacity_0 16 rfl rfl)
theorem dX3_ensureCapacity_17 : decode cX3_ensureCapacity 17 = .ok (.aload_n 2, 1) := dk_44 (dk_at dksX3_ensureCapacity_0 17 rfl rfl)
theorem dX3_ensureCapacity_18 : decode cX3_ensureCapacity 18 = .ok (.iconst 1, 1) := dk_4 (dk_at dksX3_ensureCapacity_0 18 rfl rfl)
theorem dX3_ensureCapacity_19 : decode cX3_ensureCapacity 19 = .ok (.aload_n 0, 1) := dk_42 (dk_at dksX3_ensureCapacity_0 19 rfl rfl)
theorem dX3_ensureCapacity_20 : decode cX3_ensureCapacity 20 = .ok (.getfield 41, 3) := dk_180 0 41 (dk_at dksX3_ensureCapacity_0 20 rfl rfl)
theorem dX3_ensureCapacity_23 : decode cX3_ensureCapacity 23 = .ok (.invokestatic 35, 3) := dk_184 0 35 (dk_at dksX3_ensureCapacity_1 0 rfl rfl)
theorem dX3_ensureCapacity_26 : decode cX3_ensureCapacity 26 = .ok (.aload_n 0, 1) := dk_42 (dk_at dksX3_ensureCapacity_1 3 rfl rfl)
theorem dX3_ensureCapacity_27 : decode cX3_ensureCapacity 27 = .ok (.aload_n 2, 1) := dk_44 (dk_at dksX3_ensureCapacity_1 4 rfl rfl)
theorem dX3_ensureCapacity_28 : decode cX3_ensureCapacity 28 = .ok (.putfield 31, 3) := dk_181 0 31 (dk_at dksX3_ensureCapacity_1 5 rfl rfl)
theorem dX3_ensureCapacity_31 : decode cX3_ensureCapacity 31 = .ok (.return_, 1) := dk_177 (dk_at dksX3_ensureCapacity_1 8 rfl rfl)
abbrev cX3_fixup : ByteArray := prog_4_method_8_code
def yX3_fixup : MethodName := ⟨RX3, "fixup", "(I)V"⟩
def dkwX3_fixup_2 : List UInt8 := [180, 0, 31, 29, 50, 83, 29, 60, 167, 255, 207, 42, 180, 0, 31, 27, 44, 83, 177]
abbrev dktX3_fixup_2 : List UInt8 := dkwX3_fixup_2 ++ []
def dkwX3_fixup_1 : List UInt8 := [180, 0, 31, 29, 50, 192, 0, 58, 44, 184, 0, 60, 157, 0, 6, 167, 0, 20, 42, 180, 0, 31, 27, 42]
abbrev dktX3_fixup_1 : List UInt8 := dkwX3_fixup_1 ++ dktX3_fixup_2
def dkwX3_fixup_0 : List UInt8 := [42, 180, 0, 31, 27, 50, 77, 27, 4, 164, 0, 50, 27, 5, 100, 42, 180, 0, 19, 108, 4, 96, 62, 42]
abbrev dktX3_fixup_0 : List UInt8 := dkwX3_fixup_0 ++ dktX3_fixup_1
theorem dksX3_fixup_0 : cX3_fixup.data.toList.drop 0 = dktX3_fixup_0 := by decide +kernel
theorem dksX3_fixup_1 : cX3_fixup.data.toList.drop 24 = dktX3_fixup_1 := dk_seg dksX3_fixup_0 24 rfl rfl
theorem dksX3_fixup_2 : cX3_fixup.data.toList.drop 48 = dktX3_fixup_2 := dk_seg dksX3_fixup_1 24 rfl rfl
theorem dX3_fixup_0 : decode cX3_fixup 0 = .ok (.aload_n 0, 1) := dk_42 (dk_at dksX3_fixup_0 0 rfl rfl)
theorem dX3_fixup_1 : decode cX3_fixup 1 = .ok (.getfield 31, 3) := dk_180 0 31 (dk_at dksX3_fixup_0 1 rfl rfl)
theorem dX3_fixup_4 : decode cX3_fixup 4 = .ok (.iload_n 1, 1) := dk_27 (dk_at dksX3_fixup_0 4 rfl rfl)
theorem dX3_fixup_5 : decode cX3_fixup 5 = .ok (.aaload, 1) := dk_50 (dk_at dksX3_fixup_0 5 rfl rfl)
theorem dX3_fixup_6 : decode cX3_fixup 6 = .ok (.astore_n 2, 1) := dk_77 (dk_at dksX3_fixup_0 6 rfl rfl)
theorem dX3_fixup_7 : decode cX3_fixup 7 = .ok (.iload_n 1, 1) := dk_27 (dk_at dksX3_fixup_0 7 rfl rfl)
theorem dX3_fixup_8 : decode cX3_fixup 8 = .ok (.iconst 1, 1) := dk_4 (dk_at dksX3_fixup_0 8 rfl rfl)
theorem dX3_fixup_9 : decode cX3_fixup 9 = .ok (.if_icmp .le 50, 3) := dk_164 0 50 (dk_at dksX3_fixup_0 9 rfl rfl)
theorem dX3_fixup_12 : decode cX3_fixup 12 = .ok (.iload_n 1, 1) := dk_27 (dk_at dksX3_fixup_0 12 rfl rfl)
theorem dX3_fixup_13 : decode cX3_fixup 13 = .ok (.iconst 2, 1) := dk_5 (dk_at dksX3_fixup_0 13 rfl rfl)
theorem dX3_fixup_14 : decode cX3_fixup 14 = .ok (.isub, 1) := dk_100 (dk_at dksX3_fixup_0 14 rfl rfl)
theorem dX3_fixup_15 : decode cX3_fixup 15 = .ok (.aload_n 0, 1) := dk_42 (dk_at dksX3_fixup_0 15 rfl rfl)
theorem dX3_fixup_16 : decode cX3_fixup 16 = .ok (.getfield 19, 3) := dk_180 0 19 (dk_at dksX3_fixup_0 16 rfl rfl)
theorem dX3_fixup_19 : decode cX3_fixup 19 = .ok (.idiv, 1) := dk_108 (dk_at dksX3_fixup_0 19 rfl rfl)
theorem dX3_fixup_20 : decode cX3_fixup 20 = .ok (.iconst 1, 1) := dk_4 (dk_at dksX3_fixup_0 20 rfl rfl)
theorem dX3_fixup_21 : decode cX3_fixup 21 = .ok (.iadd, 1) := dk_96 (dk_at dksX3_fixup_0 21 rfl rfl)
theorem dX3_fixup_22 : decode cX3_fixup 22 = .ok (.istore_n 3, 1) := dk_62 (dk_at dksX3_fixup_0 22 rfl rfl)
theorem dX3_fixup_23 : decode cX3_fixup 23 = .ok (.aload_n 0, 1) := dk_42 (dk_at dksX3_fixup_0 23 rfl rfl)
theorem dX3_fixup_24 : decode cX3_fixup 24 = .ok (.getfield 31, 3) := dk_180 0 31 (dk_at dksX3_fixup_1 0 rfl rfl)
theorem dX3_fixup_27 : decode cX3_fixup 27 = .ok (.iload_n 3, 1) := dk_29 (dk_at dksX3_fixup_1 3 rfl rfl)
theorem dX3_fixup_28 : decode cX3_fixup 28 = .ok (.aaload, 1) := dk_50 (dk_at dksX3_fixup_1 4 rfl rfl)
theorem dX3_fixup_29 : decode cX3_fixup 29 = .ok (.checkcast 58, 3) := dk_192 0 58 (dk_at dksX3_fixup_1 5 rfl rfl)
theorem dX3_fixup_32 : decode cX3_fixup 32 = .ok (.aload_n 2, 1) := dk_44 (dk_at dksX3_fixup_1 8 rfl rfl)
theorem dX3_fixup_33 : decode cX3_fixup 33 = .ok (.invokestatic 60, 3) := dk_184 0 60 (dk_at dksX3_fixup_1 9 rfl rfl)
theorem dX3_fixup_36 : decode cX3_fixup 36 = .ok (.ifCond .gt 6, 3) := dk_157 0 6 (dk_at dksX3_fixup_1 12 rfl rfl)
theorem dX3_fixup_39 : decode cX3_fixup 39 = .ok (.goto 20, 3) := dk_167 0 20 (dk_at dksX3_fixup_1 15 rfl rfl)
theorem dX3_fixup_42 : decode cX3_fixup 42 = .ok (.aload_n 0, 1) := dk_42 (dk_at dksX3_fixup_1 18 rfl rfl)
theorem dX3_fixup_43 : decode cX3_fixup 43 = .ok (.getfield 31, 3) := dk_180 0 31 (dk_at dksX3_fixup_1 19 rfl rfl)
theorem dX3_fixup_46 : decode cX3_fixup 46 = .ok (.iload_n 1, 1) := dk_27 (dk_at dksX3_fixup_1 22 rfl rfl)
theorem dX3_fixup_47 : decode cX3_fixup 47 = .ok (.aload_n 0, 1) := dk_42 (dk_at dksX3_fixup_1 23 rfl rfl)
theorem dX3_fixup_48 : decode cX3_fixup 48 = .ok (.getfield 31, 3) := dk_180 0 31 (dk_at dksX3_fixup_2 0 rfl rfl)
theorem dX3_fixup_51 : decode cX3_fixup 51 = .ok (.iload_n 3, 1) := dk_29 (dk_at dksX3_fixup_2 3 rfl rfl)
theorem dX3_fixup_52 : decode cX3_fixup 52 = .ok (.aaload, 1) := dk_50 (dk_at dksX3_fixup_2 4 rfl rfl)
theorem dX3_fixup_53 : decode cX3_fixup 53 = .ok (.aastore, 1) := dk_83 (dk_at dksX3_fixup_2 5 rfl rfl)
theorem dX3_fixup_54 : decode cX3_fixup 54 = .ok (.iload_n 3, 1) := dk_29 (dk_at dksX3_fixup_2 6 rfl rfl)
theorem dX3_fixup_55 : decode cX3_fixup 55 = .ok (.istore_n 1, 1) := dk_60 (dk_at dksX3_fixup_2 7 rfl rfl)
theorem dX3_fixup_56 : decode cX3_fixup 56 = .ok (.goto (-49), 3) := dk_167 255 207 (dk_at dksX3_fixup_2 8 rfl rfl)
theorem dX3_fixup_59 : decode cX3_fixup 59 = .ok (.aload_n 0, 1) := dk_42 (dk_at dksX3_fixup_2 11 rfl rfl)
theorem dX3_fixup_60 : decode cX3_fixup 60 = .ok (.getfield 31, 3) := dk_180 0 31 (dk_at dksX3_fixup_2 12 rfl rfl)
theorem dX3_fixup_63 : decode cX3_fixup 63 = .ok (.iload_n 1, 1) := dk_27 (dk_at dksX3_fixup_2 15 rfl rfl)
theorem dX3_fixup_64 : decode cX3_fixup 64 = .ok (.aload_n 2, 1) := dk_44 (dk_at dksX3_fixup_2 16 rfl rfl)
theorem dX3_fixup_65 : decode cX3_fixup 65 = .ok (.aastore, 1) := dk_83 (dk_at dksX3_fixup_2 17 rfl rfl)
theorem dX3_fixup_66 : decode cX3_fixup 66 = .ok (.return_, 1) := dk_177 (dk_at dksX3_fixup_2 18 rfl rfl)
abbrev cX3_fixupWithComparator : ByteArray := prog_4_method_9_code
def yX3_fixupWithComparator : MethodName := ⟨RX3, "fixupWithComparator", "(I)V"⟩
def dkwX3_fixupWithComparator_2 : List UInt8 := [180, 0, 31, 27, 42, 180, 0, 31, 29, 50, 83, 29, 60, 167, 255, 204, 42, 180, 0, 31, 27, 44, 83, 177]
abbrev dktX3_fixupWithComparator_2 : List UInt8 := dkwX3_fixupWithComparator_2 ++ []
def dkwX3_fixupWithComparator_1 : List UInt8 := [180, 0, 66, 42, 180, 0, 31, 29, 50, 44, 185, 0, 70, 3, 0, 157, 0, 6, 167, 0, 20, 42]
abbrev dktX3_fixupWithComparator_1 : List UInt8 := dkwX3_fixupWithComparator_1 ++ dktX3_fixupWithComparator_2
def dkwX3_fixupWithComparator_0 : List UInt8 := [42, 180, 0, 31, 27, 50, 77, 27, 4, 164, 0, 53, 27, 5, 100, 42, 180, 0, 19, 108, 4, 96, 62, 42]
abbrev dktX3_fixupWithComparator_0 : List UInt8 := dkwX3_fixupWithComparator_0 ++ dktX3_fixupWithComparator_1
theorem dksX3_fixupWithComparator_0 : cX3_fixupWithComparator.data.toList.drop 0 = dktX3_fixupWithComparator_0 := by decide +kernel
theorem dksX3_fixupWithComparator_1 : cX3_fixupWithComparator.data.toList.drop 24 = dktX3_fixupWithComparator_1 := dk_seg dksX3_fixupWithComparator_0 24 rfl rfl
theorem dksX3_fixupWithComparator_2 : cX3_fixupWithComparator.data.toList.drop 46 = dktX3_fixupWithComparator_2 := dk_seg dksX3_fixupWithComparator_1 22 rfl rfl
theorem dX3_fixupWithComparator_0 : decode cX3_fixupWithComparator 0 = .ok (.aload_n 0, 1) := dk_42 (dk_at dksX3_fixupWithComparator_0 0 rfl rfl)
theorem dX3_fixupWithComparator_1 : decode cX3_fixupWithComparator 1 = .ok (.getfield 31, 3) := dk_180 0 31 (dk_at dksX3_fixupWithComparator_0 1 rfl rfl)
theorem dX3_fixupWithComparator_4 : decode cX3_fixupWithComparator 4 = .ok (.iload_n 1, 1) := dk_27 (dk_at dksX3_fixupWithComparator_0 4 rfl rfl)
theorem dX3_fixupWithComparator_5 : decode cX3_fixupWithComparator 5 = .ok (.aaload, 1) := dk_50 (dk_at dksX3_fixupWithComparator_0 5 rfl rfl)
theorem dX3_fixupWithComparator_6 : decode cX3_fixupWithComparator 6 = .ok (.astore_n 2, 1) := dk_77 (dk_at dksX3_fixupWithComparator_0 6 rfl rfl)
theorem dX3_fixupWithComparator_7 : decode cX3_fixupWithComparator 7 = .ok (.iload_n 1, 1) := dk_27 (dk_at dksX3_fixupWithComparator_0 7 rfl rfl)
theorem dX3_fixupWithComparator_8 : decode cX3_fixupWithComparator 8 = .ok (.iconst 1, 1) := dk_4 (dk_at dksX3_fixupWithComparator_0 8 rfl rfl)
theorem dX3_fixupWithComparator_9 : decode cX3_fixupWithComparator 9 = .ok (.if_icmp .le 53, 3) := dk_164 0 53 (dk_at dksX3_fixupWithComparator_0 9 rfl rfl)
theorem dX3_fixupWithComparator_12 : decode cX3_fixupWithComparator 12 = .ok (.iload_n 1, 1) := dk_27 (dk_at dksX3_fixupWithComparator_0 12 rfl rfl)
theorem dX3_fixupWithComparator_13 : decode cX3_fixupWithComparator 13 = .ok (.iconst 2, 1) := dk_5 (dk_at dksX3_fixupWithComparator_0 13 rfl rfl)
theorem dX3_fixupWithComparator_14 : decode cX3_fixupWithComparator 14 = .ok (.isub, 1) := dk_100 (dk_at dksX3_fixupWithComparator_0 14 rfl rfl)
theorem dX3_fixupWithComparator_15 : decode cX3_fixupWithComparator 15 = .ok (.aload_n 0, 1) := dk_42 (dk_at dksX3_fixupWithComparator_0 15 rfl rfl)
theorem dX3_fixupWithComparator_16 : decode cX3_fixupWithComparator 16 = .ok (.getfield 19, 3) := dk_180 0 19 (dk_at dksX3_fixupWithComparator_0 16 rfl rfl)
theorem dX3_fixupWithComparator_19 : decode cX3_fixupWithComparator 19 = .ok (.idiv, 1) := dk_108 (dk_at dksX3_fixupWithComparator_0 19 rfl rfl)
theorem dX3_fixupWithComparator_20 : decode cX3_fixupWithComparator 20 = .ok (.iconst 1, 1) := dk_4 (dk_at dksX3_fixupWithComparator_0 20 rfl rfl)
theorem dX3_fixupWithComparator_21 : decode cX3_fixupWithComparator 21 = .ok (.iadd, 1) := dk_96 (dk_at dksX3_fixupWithComparator_0 21 rfl rfl)
theorem dX3_fixupWithComparator_22 : decode cX3_fixupWithComparator 22 = .ok (.istore_n 3, 1) := dk_62 (dk_at dksX3_fixupWithComparator_0 22 rfl rfl)
theorem dX3_fixupWithComparator_23 : decode cX3_fixupWithComparator 23 = .ok (.aload_n 0, 1) := dk_42 (dk_at dksX3_fixupWithComparator_0 23 rfl rfl)
theorem dX3_fixupWithComparator_24 : decode cX3_fixupWithComparator 24 = .ok (.getfield 66, 3) := dk_180 0 66 (dk_at dksX3_fixupWithComparator_1 0 rfl rfl)
theorem dX3_fixupWithComparator_27 : decode cX3_fixupWithComparator 27 = .ok (.aload_n 0, 1) := dk_42 (dk_at dksX3_fixupWithComparator_1 3 rfl rfl)
theorem dX3_fixupWithComparator_28 : decode cX3_fixupWithComparator 28 = .ok (.getfield 31, 3) := dk_180 0 31 (dk_at dksX3_fixupWithComparator_1 4 rfl rfl)
theorem dX3_fixupWithComparator_31 : decode cX3_fixupWithComparator 31 = .ok (.iload_n 3, 1) := dk_29 (dk_at dksX3_fixupWithComparator_1 7 rfl rfl)
theorem dX3_fixupWithComparator_32 : decode cX3_fixupWithComparator 32 = .ok (.aaload, 1) := dk_50 (dk_at dksX3_fixupWithComparator_1 8 rfl rfl)
theorem dX3_fixupWithComparator_33 : decode cX3_fixupWithComparator 33 = .ok (.aload_n 2, 1) := dk_44 (dk_at dksX3_fixupWithComparator_1 9 rfl rfl)
theorem dX3_fixupWithComparator_34 : decode cX3_fixupWithComparator 34 = .ok (.invokeinterface 70 3, 5) := by decide +kernel
theorem dX3_fixupWithComparator_39 : decode cX3_fixupWithComparator 39 = .ok (.ifCond .gt 6, 3) := dk_157 0 6 (dk_at dksX3_fixupWithComparator_1 15 rfl rfl)
theorem dX3_fixupWithComparator_42 : decode cX3_fixupWithComparator 42 = .ok (.goto 20, 3) := dk_167 0 20 (dk_at dksX3_fixupWithComparator_1 18 rfl rfl)
theorem dX3_fixupWithComparator_45 : decode cX3_fixupWithComparator 45 = .ok (.aload_n 0, 1) := dk_42 (dk_at dksX3_fixupWithComparator_1 21 rfl rfl)
theorem dX3_fixupWithComparator_46 : decode cX3_fixupWithComparator 46 = .ok (.getfield 31, 3) := dk_180 0 31 (dk_at dksX3_fixupWithComparator_2 0 rfl rfl)
theorem dX3_fixupWithComparator_49 : decode cX3_fixupWithComparator 49 = .ok (.iload_n 1, 1) := dk_27 (dk_at dksX3_fixupWithComparator_2 3 rfl rfl)
theorem dX3_fixupWithComparator_50 : decode cX3_fixupWithComparator 50 = .ok (.aload_n 0, 1) := dk_42 (dk_at dksX3_fixupWithComparator_2 4 rfl rfl)
theorem dX3_fixupWithComparator_51 : decode cX3_fixupWithComparator 51 = .ok (.getfield 31, 3) := dk_180 0 31 (dk_at dksX3_fixupWithComparator_2 5 rfl rfl)
theorem dX3_fixupWithComparator_54 : decode cX3_fixupWithComparator 54 = .ok (.iload_n 3, 1) := dk_29 (dk_at dksX3_fixupWithComparator_2 8 rfl rfl)
theorem dX3_fixupWithComparator_55 : decode cX3_fixupWithComparator 55 = .ok (.aaload, 1) := dk_50 (dk_at dksX3_fixupWithComparator_2 9 rfl rfl)
theorem dX3_fixupWithComparator_56 : decode cX3_fixupWithComparator 56 = .ok (.aastore, 1) := dk_83 (dk_at dksX3_fixupWithComparator_2 10 rfl rfl)
theorem dX3_fixupWithComparator_57 : decode cX3_fixupWithComparator 57 = .ok (.iload_n 3, 1) := dk_29 (dk_at dksX3_fixupWithComparator_2 11 rfl rfl)
theorem dX3_fixupWithComparator_58 : decode cX3_fixupWithComparator 58 = .ok (.istore_n 1, 1) := dk_60 (dk_at dksX3_fixupWithComparator_2 12 rfl rfl)
theorem dX3_fixupWithComparator_59 : decode cX3_fixupWithComparator 59 = .ok (.goto (-52), 3) := dk_167 255 204 (dk_at dksX3_fixupWithComparator_2 13 rfl rfl)
theorem dX3_fixupWithComparator_62 : decode cX3_fixupWithComparator 62 = .ok (.aload_n 0, 1) := dk_42 (dk_at dksX3_fixupWithComparator_2 16 rfl rfl)
theorem dX3_fixupWithComparator_63 : decode cX3_fixupWithComparator 63 = .ok (.getfield 31, 3) := dk_180 0 31 (dk_at dksX3_fixupWithComparator_2 17 rfl rfl)
theorem dX3_fixupWithComparator_66 : decode cX3_fixupWithComparator 66 = .ok (.iload_n 1, 1) := dk_27 (dk_at dksX3_fixupWithComparator_2 20 rfl rfl)
theorem dX3_fixupWithComparator_67 : decode cX3_fixupWithComparator 67 = .ok (.aload_n 2, 1) := dk_44 (dk_at dksX3_fixupWithComparator_2 21 rfl rfl)
theorem dX3_fixupWithComparator_68 : decode cX3_fixupWithComparator 68 = .ok (.aastore, 1) := dk_83 (dk_at dksX3_fixupWithComparator_2 22 rfl rfl)
theorem dX3_fixupWithComparator_69 : decode cX3_fixupWithComparator 69 = .ok (.return_, 1) := dk_177 (dk_at dksX3_fixupWithComparator_2 23 rfl rfl)
abbrev cX3_heapify : ByteArray := prog_4_method_5_code
def yX3_heapify : MethodName := ⟨RX3, "heapify", "(I[Ljava/lang/Object;)LDaryArrayHeap;"⟩
def dkwX3_heapify_4 : List UInt8 := [176]
abbrev dktX3_heapify_4 : List UInt8 := dkwX3_heapify_4 ++ []
def dkwX3_heapify_3 : List UInt8 := [181, 0, 41, 43, 190, 26, 108, 62, 29, 158, 0, 14, 44, 29, 182, 0, 44, 132, 3, 255, 167, 255, 244, 44]
abbrev dktX3_heapify_3 : List UInt8 := dkwX3_heapify_3 ++ dktX3_heapify_4
def dkwX3_heapify_2 : List UInt8 := [26, 43, 190, 183, 0, 28, 77, 43, 3, 44, 180, 0, 31, 4, 43, 190, 184, 0, 35, 44, 43, 190]
abbrev dktX3_heapify_2 : List UInt8 := dkwX3_heapify_2 ++ dktX3_heapify_3
def dkwX3_heapify_1 : List UInt8 := [18, 23, 183, 0, 16, 191, 43, 190, 154, 0, 12, 187, 0, 1, 89, 26, 183, 0, 25, 176, 187, 0, 1, 89]
abbrev dktX3_heapify_1 : List UInt8 := dkwX3_heapify_1 ++ dktX3_heapify_2
def dkwX3_heapify_0 : List UInt8 := [26, 5, 162, 0, 13, 187, 0, 12, 89, 18, 14, 183, 0, 16, 191, 43, 199, 0, 13, 187, 0, 12, 89]
abbrev dktX3_heapify_0 : List UInt8 := dkwX3_heapify_0 ++ dktX3_heapify_1
theorem dksX3_heapify_0 : cX3_heapify.data.toList.drop 0 = dktX3_heapify_0 := by decide +kernel
theorem dksX3_heapify_1 : cX3_heapify.data.toList.drop 23 = dktX3_heapify_1 := dk_seg dksX3_heapify_0 23 rfl rfl
theorem dksX3_heapify_2 : cX3_heapify.data.toList.drop 47 = dktX3_heapify_2 := dk_seg dksX3_heapify_1 24 rfl rfl
theorem dksX3_heapify_3 : cX3_heapify.data.toList.drop 69 = dktX3_heapify_3 := dk_seg dksX3_heapify_2 22 rfl rfl
theorem dksX3_heapify_4 : cX3_heapify.data.toList.drop 93 = dktX3_heapify_4 := dk_seg dksX3_heapify_3 24 rfl rfl
theorem dX3_heapify_0 : decode cX3_heapify 0 = .ok (.iload_n 0, 1) := dk_26 (dk_at dksX3_heapify_0 0 rfl rfl)
theorem dX3_heapify_1 : decode cX3_heapify 1 = .ok (.iconst 2, 1) := dk_5 (dk_at dksX3_heapify_0 1 rfl rfl)
theorem dX3_heapify_2 : decode cX3_heapify 2 = .ok (.if_icmp .ge 13, 3) := dk_162 0 13 (dk_at dksX3_heapify_0 2 rfl rfl)
theorem dX3_heapify_5 : decode cX3_heapify 5 = .ok (.new 12, 3) := dk_187 0 12 (dk_at dksX3_heapify_0 5 rfl rfl)
theorem dX3_heapify_8 : decode cX3_heapify 8 = .ok (.dup, 1) := dk_89 (dk_at dksX3_heapify_0 8 rfl rfl)
theorem dX3_heapify_9 : decode cX3_heapify 9 = .ok (.ldc 14, 2) := dk_18 14 (dk_at dksX3_heapify_0 9 rfl rfl)
theorem dX3_heapify_11 : decode cX3_heapify 11 = .ok (.invokespecial 16, 3) := dk_183 0 16 (dk_at dksX3_heapify_0 11 rfl rfl)
theorem dX3_heapify_14 : decode cX3_heapify 14 = .ok (.athrow, 1) := dk_191 (dk_at dksX3_heapify_0 14 rfl rfl)
theorem dX3_heapify_15 : decode cX3_heapify 15 = .ok (.aload_n 1, 1) := dk_43 (dk_at dksX3_heapify_0 15 rfl rfl)
theorem dX3_heapify_16 : decode cX3_heapify 16 = .ok (.ifnonnull 13, 3) := dk_199 0 13 (dk_at dksX3_heapify_0 16 rfl rfl)
theorem dX3_heapify_19 : decode cX3_heapify 19 = .ok (.new 12, 3) := dk_187 0 12 (dk_at dksX3_heapify_0 19 rfl rfl)
theorem dX3_heapify_22 : decode cX3_heapify 22 = .ok (.dup, 1) := dk_89 (dk_at dksX3_heapify_0 22 rfl rfl)
theorem dX3_heapify_23 : decode cX3_heapify 23 = .ok (.ldc 23, 2) := dk_18 23 (dk_at dksX3_heapify_1 0 rfl rfl)
theorem dX3_heapify_25 : decode cX3_heapify 25 = .ok (.invokespecial 16, 3) := dk_183 0 16 (dk_at dksX3_heapify_1 2 rfl rfl)
theorem dX3_heapify_28 : decode cX3_heapify 28 = .ok (.athrow, 1) := dk_191 (dk_at dksX3_heapify_1 5 rfl rfl)
theorem dX3_heapify_29 : decode cX3_heapify 29 = .ok (.aload_n 1, 1) := dk_43 (dk_at dksX3_heapify_1 6 rfl rfl)
theorem dX3_heapify_30 : decode cX3_heapify 30 = .ok (.arraylength, 1) := dk_190 (dk_at dksX3_heapify_1 7 rfl rfl)
theorem dX3_heapify_31 : decode cX3_heapify 31 = .ok (.ifCond .ne 12, 3) := dk_154 0 12 (dk_at dksX3_heapify_1 8 rfl rfl)
theorem dX3_heapify_34 : decode cX3_heapify 34 = .ok (.new 1, 3) := dk_187 0 1 (dk_at dksX3_heapify_1 11 rfl rfl)
theorem dX3_heapify_37 : decode cX3_heapify 37 = .ok (.dup, 1) := dk_89 (dk_at dksX3_heapify_1 14 rfl rfl)
theorem dX3_heapify_38 : decode cX3_heapify 38 = .ok (.iload_n 0, 1) := dk_26 (dk_at dksX3_heapify_1 15 rfl rfl)
theorem dX3_heapify_39 : decode cX3_heapify 39 = .ok (.invokespecial 25, 3) := dk_183 0 25 (dk_at dksX3_heapify_1 16 rfl rfl)
theorem dX3_heapify_42 : decode cX3_heapify 42 = .ok (.areturn, 1) := dk_176 (dk_at dksX3_heapify_1 19 rfl rfl)
theorem dX3_heapify_43 : decode cX3_heapify 43 = .ok (.new 1, 3) := dk_187 0 1 (dk_at dksX3_heapify_1 20 rfl rfl)
theorem dX3_heapify_46 : decode cX3_heapify 46 = .ok (.dup, 1) := dk_89 (dk_at dksX3_heapify_1 23 rfl rfl)
theorem dX3_heapify_47 : decode cX3_heapify 47 = .ok (.iload_n 0, 1) := dk_26 (dk_at dksX3_heapify_2 0 rfl rfl)
theorem dX3_heapify_48 : decode cX3_heapify 48 = .ok (.aload_n 1, 1) := dk_43 (dk_at dksX3_heapify_2 1 rfl rfl)
theorem dX3_heapify_49 : decode cX3_heapify 49 = .ok (.arraylength, 1) := dk_190 (dk_at dksX3_heapify_2 2 rfl rfl)
theorem dX3_heapify_50 : decode cX3_heapify 50 = .ok (.invokespecial 28, 3) := dk_183 0 28 (dk_at dksX3_heapify_2 3 rfl rfl)
theorem dX3_heapify_53 : decode cX3_heapify 53 = .ok (.astore_n 2, 1) := dk_77 (dk_at dksX3_heapify_2 6 rfl rfl)
theorem dX3_heapify_54 : decode cX3_heapify 54 = .ok (.aload_n 1, 1) := dk_43 (dk_at dksX3_heapify_2 7 rfl rfl)
theorem dX3_heapify_55 : decode cX3_heapify 55 = .ok (.iconst 0, 1) := dk_3 (dk_at dksX3_heapify_2 8 rfl rfl)
theorem dX3_heapify_56 : decode cX3_heapify 56 = .ok (.aload_n 2, 1) := dk_44 (dk_at dksX3_heapify_2 9 rfl rfl)
theorem dX3_heapify_57 : decode cX3_heapify 57 = .ok (.getfield 31, 3) := dk_180 0 31 (dk_at dksX3_heapify_2 10 rfl rfl)
theorem dX3_heapify_60 : decode cX3_heapify 60 = .ok (.iconst 1, 1) := dk_4 (dk_at dksX3_heapify_2 13 rfl rfl)
theorem dX3_heapify_61 : decode cX3_heapify 61 = .ok (.aload_n 1, 1) := dk_43 (dk_at dksX3_heapify_2 14 rfl rfl)
theorem dX3_heapify_62 : decode cX3_heapify 62 = .ok (.arraylength, 1) := dk_190 (dk_at dksX3_heapify_2 15 rfl rfl)
theorem dX3_heapify_63 : decode cX3_heapify 63 = .ok (.invokestatic 35, 3) := dk_184 0 35 (dk_at dksX3_heapify_2 16 rfl rfl)
theorem dX3_heapify_66 : decode cX3_heapify 66 = .ok (.aload_n 2, 1) := dk_44 (dk_at dksX3_heapify_2 19 rfl rfl)
theorem dX3_heapify_67 : decode cX3_heapify 67 = .ok (.aload_n 1, 1) := dk_43 (dk_at dksX3_heapify_2 20 rfl rfl)
theorem dX3_heapify_68 : decode cX3_heapify 68 = .ok (.arraylength, 1) := dk_190 (dk_at dksX3_heapify_2 21 rfl rfl)
theorem dX3_heapify_69 : decode cX3_heapify 69 = .ok (.putfield 41, 3) := dk_181 0 41 (dk_at dksX3_heapify_3 0 rfl rfl)
theorem dX3_heapify_72 : decode cX3_heapify 72 = .ok (.aload_n 1, 1) := dk_43 (dk_at dksX3_heapify_3 3 rfl rfl)
theorem dX3_heapify_73 : decode cX3_heapify 73 = .ok (.arraylength, 1) := dk_190 (dk_at dksX3_heapify_3 4 rfl rfl)
theorem dX3_heapify_74 : decode cX3_heapify 74 = .ok (.iload_n 0, 1) := dk_26 (dk_at dksX3_heapify_3 5 rfl rfl)
theorem dX3_heapify_75 : decode cX3_heapify 75 = .ok (.idiv, 1) := dk_108 (dk_at dksX3_heapify_3 6 rfl rfl)
theorem dX3_heapify_76 : decode cX3_heapify 76 = .ok (.istore_n 3, 1) := dk_62 (dk_at dksX3_heapify_3 7 rfl rfl)
theorem dX3_heapify_77 : decode cX3_heapify 77 = .ok (.iload_n 3, 1) := dk_29 (dk_at dksX3_heapify_3 8 rfl rfl)
theorem dX3_heapify_78 : decode cX3_heapify 78 = .ok (.ifCond .le 14, 3) := dk_158 0 14 (dk_at dksX3_heapify_3 9 rfl rfl)
theorem dX3_heapify_81 : decode cX3_heapify 81 = .ok (.aload_n 2, 1) := dk_44 (dk_at dksX3_heapify_3 12 rfl rfl)
theorem dX3_heapify_82 : decode cX3_heapify 82 = .ok (.iload_n 3, 1) := dk_29 (dk_at dksX3_heapify_3 13 rfl rfl)
theorem dX3_heapify_83 : decode cX3_heapify 83 = .ok (.invokevirtual 44, 3) := dk_182 0 44 (dk_at dksX3_heapify_3 14 rfl rfl)
theorem dX3_heapify_86 : decode cX3_heapify 86 = .ok (.iinc 3 (-1), 3) := dk_132 3 255 (dk_at dksX3_heapify_3 17 rfl rfl)
theorem dX3_heapify_89 : decode cX3_heapify 89 = .ok (.goto (-12), 3) := dk_167 255 244 (dk_at dksX3_heapify_3 20 rfl rfl)
theorem dX3_heapify_92 : decode cX3_heapify 92 = .ok (.aload_n 2, 1) := dk_44 (dk_at dksX3_heapify_3 23 rfl rfl)
theorem dX3_heapify_93 : decode cX3_heapify 93 = .ok (.areturn, 1) := dk_176 (dk_at dksX3_heapify_4 0 rfl rfl)
abbrev cX3_init_4 : ByteArray := prog_4_method_2_code
def yX3_init_4 : MethodName := ⟨RX3, "<init>", "(II)V"⟩
def dkwX3_init_4_0 : List UInt8 := [42, 27, 1, 28, 183, 0, 3, 177]
abbrev dktX3_init_4_0 : List UInt8 := dkwX3_init_4_0 ++ []
theorem dksX3_init_4_0 : cX3_init_4.data.toList.drop 0 = dktX3_init_4_0 := by decide +kernel
theorem dX3_init_4_0 : decode cX3_init_4 0 = .ok (.aload_n 0, 1) := dk_42 (dk_at dksX3_init_4_0 0 rfl rfl)
theorem dX3_init_4_1 : decode cX3_init_4 1 = .ok (.iload_n 1, 1) := dk_27 (dk_at dksX3_init_4_0 1 rfl rfl)
theorem dX3_init_4_2 : decode cX3_init_4 2 = .ok (.aconst_null, 1) := dk_1 (dk_at dksX3_init_4_0 2 rfl rfl)
theorem dX3_init_4_3 : decode cX3_init_4 3 = .ok (.iload_n 2, 1) := dk_28 (dk_at dksX3_init_4_0 3 rfl rfl)
theorem dX3_init_4_4 : decode cX3_init_4 4 = .ok (.invokespecial 3, 3) := dk_183 0 3 (dk_at dksX3_init_4_0 4 rfl rfl)
theorem dX3_init_4_7 : decode cX3_init_4 7 = .ok (.return_, 1) := dk_177 (dk_at dksX3_init_4_0 7 rfl rfl)
abbrev cX3_fixdown : ByteArray := prog_4_method_10_code
def yX3_fixdown : MethodName := ⟨RX3, "fixdown", "(I)V"⟩
def dkwX3_fixdown_5 : List UInt8 := [21, 4, 50, 83, 21, 4, 60, 167, 255, 138, 42, 180, 0, 31, 27, 45, 83, 177]
abbrev dktX3_fixdown_5 : List UInt8 := dkwX3_fixdown_5 ++ []
def dkwX3_fixdown_4 : List UInt8 := [180, 0, 31, 21, 4, 50, 184, 0, 60, 157, 0, 6, 167, 0, 22, 42, 180, 0, 31, 27, 42, 180, 0, 31]
abbrev dktX3_fixdown_4 : List UInt8 := dkwX3_fixdown_4 ++ dktX3_fixdown_5
def dkwX3_fixdown_3 : List UInt8 := [50, 184, 0, 60, 158, 0, 9, 28, 21, 5, 96, 54, 4, 132, 5, 1, 167, 255, 202, 45, 192, 0, 58, 42]
abbrev dktX3_fixdown_3 : List UInt8 := dkwX3_fixdown_3 ++ dktX3_fixdown_4
def dkwX3_fixdown_2 : List UInt8 := [180, 0, 41, 163, 0, 34, 42, 180, 0, 31, 21, 4, 50, 192, 0, 58, 42, 180, 0, 31, 28, 21, 5, 96]
abbrev dktX3_fixdown_2 : List UInt8 := dkwX3_fixdown_2 ++ dktX3_fixdown_3
def dkwX3_fixdown_1 : List UInt8 := [163, 0, 105, 28, 54, 4, 4, 54, 5, 21, 5, 42, 180, 0, 19, 162, 0, 51, 28, 21, 5, 96, 42]
abbrev dktX3_fixdown_1 : List UInt8 := dkwX3_fixdown_1 ++ dktX3_fixdown_2
def dkwX3_fixdown_0 : List UInt8 := [42, 180, 0, 31, 27, 50, 78, 42, 180, 0, 19, 27, 4, 100, 104, 5, 96, 89, 61, 42, 180, 0, 41]
abbrev dktX3_fixdown_0 : List UInt8 := dkwX3_fixdown_0 ++ dktX3_fixdown_1
theorem dksX3_fixdown_0 : cX3_fixdown.data.toList.drop 0 = dktX3_fixdown_0 := by decide +kernel
theorem dksX3_fixdown_1 : cX3_fixdown.data.toList.drop 23 = dktX3_fixdown_1 := dk_seg dksX3_fixdown_0 23 rfl rfl
theorem dksX3_fixdown_2 : cX3_fixdown.data.toList.drop 46 = dktX3_fixdown_2 := dk_seg dksX3_fixdown_1 23 rfl rfl
theorem dksX3_fixdown_3 : cX3_fixdown.data.toList.drop 70 = dktX3_fixdown_3 := dk_seg dksX3_fixdown_2 24 rfl rfl
theorem dksX3_fixdown_4 : cX3_fixdown.data.toList.drop 94 = dktX3_fixdown_4 := dk_seg dksX3_fixdown_3 24 rfl rfl
theorem dksX3_fixdown_5 : cX3_fixdown.data.toList.drop 118 = dktX3_fixdown_5 := dk_seg dksX3_fixdown_4 24 rfl rfl
theorem dX3_fixdown_0 : decode cX3_fixdown 0 = .ok (.aload_n 0, 1) := dk_42 (dk_at dksX3_fixdown_0 0 rfl rfl)
theorem dX3_fixdown_1 : decode cX3_fixdown 1 = .ok (.getfield 31, 3) := dk_180 0 31 (dk_at dksX3_fixdown_0 1 rfl rfl)
theorem dX3_fixdown_4 : decode cX3_fixdown 4 = .ok (.iload_n 1, 1) := dk_27 (dk_at dksX3_fixdown_0 4 rfl rfl)
theorem dX3_fixdown_5 : decode cX3_fixdown 5 = .ok (.aaload, 1) := dk_50 (dk_at dksX3_fixdown_0 5 rfl rfl)
theorem dX3_fixdown_6 : decode cX3_fixdown 6 = .ok (.astore_n 3, 1) := dk_78 (dk_at dksX3_fixdown_0 6 rfl rfl)
theorem dX3_fixdown_7 : decode cX3_fixdown 7 = .ok (.aload_n 0, 1) := dk_42 (dk_at dksX3_fixdown_0 7 rfl rfl)
theorem dX3_fixdown_8 : decode cX3_fixdown 8 = .ok (.getfield 19, 3) := dk_180 0 19 (dk_at dksX3_fixdown_0 8 rfl rfl)
theorem dX3_fixdown_11 : decode cX3_fixdown 11 = .ok (.iload_n 1, 1) := dk_27 (dk_at dksX3_fixdown_0 11 rfl rfl)
theorem dX3_fixdown_12 : decode cX3_fixdown 12 = .ok (.iconst 1, 1) := dk_4 (dk_at dksX3_fixdown_0 12 rfl rfl)
theorem dX3_fixdown_13 : decode cX3_fixdown 13 = .ok (.isub, 1) := dk_100 (dk_at dksX3_fixdown_0 13 rfl rfl)
theorem dX3_fixdown_14 : decode cX3_fixdown 14 = .ok (.imul, 1) := dk_104 (dk_at dksX3_fixdown_0 14 rfl rfl)
theorem dX3_fixdown_15 : decode cX3_fixdown 15 = .ok (.iconst 2, 1) := dk_5 (dk_at dksX3_fixdown_0 15 rfl rfl)
theorem dX3_fixdown_16 : decode cX3_fixdown 16 = .ok (.iadd, 1) := dk_96 (dk_at dksX3_fixdown_0 16 rfl rfl)
theorem dX3_fixdown_17 : decode cX3_fixdown 17 = .ok (.dup, 1) := dk_89 (dk_at dksX3_fixdown_0 17 rfl rfl)
theorem dX3_fixdown_18 : decode cX3_fixdown 18 = .ok (.istore_n 2, 1) := dk_61 (dk_at dksX3_fixdown_0 18 rfl rfl)
theorem dX3_fixdown_19 : decode cX3_fixdown 19 = .ok (.aload_n 0, 1) := dk_42 (dk_at dksX3_fixdown_0 19 rfl rfl)
theorem dX3_fixdown_20 : decode cX3_fixdown 20 = .ok (.getfield 41, 3) := dk_180 0 41 (dk_at dksX3_fixdown_0 20 rfl rfl)
theorem dX3_fixdown_23 : decode cX3_fixdown 23 = .ok (.if_icmp .gt 105, 3) := dk_163 0 105 (dk_at dksX3_fixdown_1 0 rfl rfl)
theorem dX3_fixdown_26 : decode cX3_fixdown 26 = .ok (.iload_n 2, 1) := dk_28 (dk_at dksX3_fixdown_1 3 rfl rfl)
theorem dX3_fixdown_27 : decode cX3_fixdown 27 = .ok (.istore 4, 2) := dk_54 4 (dk_at dksX3_fixdown_1 4 rfl rfl)
theorem dX3_fixdown_29 : decode cX3_fixdown 29 = .ok (.iconst 1, 1) := dk_4 (dk_at dksX3_fixdown_1 6 rfl rfl)
theorem dX3_fixdown_30 : decode cX3_fixdown 30 = .ok (.istore 5, 2) := dk_54 5 (dk_at dksX3_fixdown_1 7 rfl rfl)
theorem dX3_fixdown_32 : decode cX3_fixdown 32 = .ok (.iload 5, 2) := dk_21 5 (dk_at dksX3_fixdown_1 9 rfl rfl)
theorem dX3_fixdown_34 : decode cX3_fixdown 34 = .ok (.aload_n 0, 1) := dk_42 (dk_at dksX3_fixdown_1 11 rfl rfl)
theorem dX3_fixdown_35 : decode cX3_fixdown 35 = .ok (.getfield 19, 3) := dk_180 0 19 (dk_at dksX3_fixdown_1 12 rfl rfl)
theorem dX3_fixdown_38 : decode cX3_fixdown 38 = .ok (.if_icmp .ge 51, 3) := dk_162 0 51 (dk_at dksX3_fixdown_1 15 rfl rfl)
theorem dX3_fixdown_41 : decode cX3_fixdown 41 = .ok (.iload_n 2, 1) := dk_28 (dk_at dksX3_fixdown_1 18 rfl rfl)
theorem dX3_fixdown_42 : decode cX3_fixdown 42 = .ok (.iload 5, 2) := dk_21 5 (dk_at dksX3_fixdown_1 19 rfl rfl)
theorem dX3_fixdown_44 : decode cX3_fixdown 44 = .ok (.iadd, 1) := dk_96 (dk_at dksX3_fixdown_1 21 rfl rfl)
theorem dX3_fixdown_45 : decode cX3_fixdown 45 = .ok (.aload_n 0, 1) := dk_42 (dk_at dksX3_fixdown_1 22 rfl rfl)
theorem dX3_fixdown_46 : decode cX3_fixdown 46 = .ok (.getfield 41, 3) := dk_180 0 41 (dk_at dksX3_fixdown_2 0 rfl rfl)
theorem dX3_fixdown_49 : decode cX3_fixdown 49 = .ok (.if_icmp .gt 34, 3) := dk_163 0 34 (dk_at dksX3_fixdown_2 3 rfl rfl)
theorem dX3_fixdown_52 : decode cX3_fixdown 52 = .ok (.aload_n 0, 1) := dk_42 (dk_at dksX3_fixdown_2 6 rfl rfl)
theorem dX3_fixdown_53 : decode cX3_fixdown 53 = .ok (.getfield 31, 3) := dk_180 0 31 (dk_at dksX3_fixdown_2 7 rfl rfl)
theorem dX3_fixdown_56 : decode cX3_fixdown 56 = .ok (.iload 4, 2) := dk_21 4 (dk_at dksX3_fixdown_2 10 rfl rfl)
theorem dX3_fixdown_58 : decode cX3_fixdown 58 = .ok (.aaload, 1) := dk_50 (dk_at dksX3_fixdown_2 12 rfl rfl)
theorem dX3_fixdown_59 : decode cX3_fixdown 59 = .ok (.checkcast 58, 3) := dk_192 0 58 (dk_at dksX3_fixdown_2 13 rfl rfl)
theorem dX3_fixdown_62 : decode cX3_fixdown 62 = .ok (.aload_n 0, 1) := dk_42 (dk_at dksX3_fixdown_2 16 rfl rfl)
theorem dX3_fixdown_63 : decode cX3_fixdown 63 = .ok (.getfield 31, 3) := dk_180 0 31 (dk_at dksX3_fixdown_2 17 rfl rfl)
theorem dX3_fixdown_66 : decode cX3_fixdown 66 = .ok (.iload_n 2, 1) := dk_28 (dk_at dksX3_fixdown_2 20 rfl rfl)
theorem dX3_fixdown_67 : decode cX3_fixdown 67 = .ok (.iload 5, 2) := dk_21 5 (dk_at dksX3_fixdown_2 21 rfl rfl)
theorem dX3_fixdown_69 : decode cX3_fixdown 69 = .ok (.iadd, 1) := dk_96 (dk_at dksX3_fixdown_2 23 rfl rfl)
theorem dX3_fixdown_70 : decode cX3_fixdown 70 = .ok (.aaload, 1) := dk_50 (dk_at dksX3_fixdown_3 0 rfl rfl)
theorem dX3_fixdown_71 : decode cX3_fixdown 71 = .ok (.invokestatic 60, 3) := dk_184 0 60 (dk_at dksX3_fixdown_3 1 rfl rfl)
theorem dX3_fixdown_74 : decode cX3_fixdown 74 = .ok (.ifCond .le 9, 3) := dk_158 0 9 (dk_at dksX3_fixdown_3 4 rfl rfl)
theorem dX3_fixdown_77 : decode cX3_fixdown 77 = .ok (.iload_n 2, 1) := dk_28 (dk_at dksX3_fixdown_3 7 rfl rfl)
theorem dX3_fixdown_78 : decode cX3_fixdown 78 = .ok (.iload 5, 2) := dk_21 5 (dk_at dksX3_fixdown_3 8 rfl rfl)
theorem dX3_fixdown_80 : decode cX3_fixdown 80 = .ok (.iadd, 1) := dk_96 (dk_at dksX3_fixdown_3 10 rfl rfl)
theorem dX3_fixdown_81 : decode cX3_fixdown 81 = .ok (.istore 4, 2) := dk_54 4 (dk_at dksX3_fixdown_3 11 rfl rfl)
theorem dX3_fixdown_83 : decode cX3_fixdown 83 = .ok (.iinc 5 1, 3) := dk_132 5 1 (dk_at dksX3_fixdown_3 13 rfl rfl)
theorem dX3_fixdown_86 : decode cX3_fixdown 86 = .ok (.goto (-54), 3) := dk_167 255 202 (dk_at dksX3_fixdown_3 16 rfl rfl)
theorem dX3_fixdown_89 : decode cX3_fixdown 89 = .ok (.aload_n 3, 1) := dk_45 (dk_at dksX3_fixdown_3 19 rfl rfl)
theorem dX3_fixdown_90 : decode cX3_fixdown 90 = .ok (.checkcast 58, 3) := dk_192 0 58 (dk_at dksX3_fixdown_3 20 rfl rfl)
theorem dX3_fixdown_93 : decode cX3_fixdown 93 = .ok (.aload_n 0, 1) := dk_42 (dk_at dksX3_fixdown_3 23 rfl rfl)
theorem dX3_fixdown_94 : decode cX3_fixdown 94 = .ok (.getfield 31, 3) := dk_180 0 31 (dk_at dksX3_fixdown_4 0 rfl rfl)
theorem dX3_fixdown_97 : decode cX3_fixdown 97 = .ok (.iload 4, 2) := dk_21 4 (dk_at dksX3_fixdown_4 3 rfl rfl)
theorem dX3_fixdown_99 : decode cX3_fixdown 99 = .ok (.aaload, 1) := dk_50 (dk_at dksX3_fixdown_4 5 rfl rfl)
theorem dX3_fixdown_100 : decode cX3_fixdown 100 = .ok (.invokestatic 60, 3) := dk_184 0 60 (dk_at dksX3_fixdown_4 6 rfl rfl)
theorem dX3_fixdown_103 : decode cX3_fixdown 103 = .ok (.ifCond .gt 6, 3) := dk_157 0 6 (dk_at dksX3_fixdown_4 9 rfl rfl)
theorem dX3_fixdown_106 : decode cX3_fixdown 106 = .ok (.goto 22, 3) := dk_167 0 22 (dk_at dksX3_fixdown_4 12 rfl rfl)
theorem dX3_fixdown_109 : decode cX3_fixdown 109 = .ok (.aload_n 0, 1) := dk_42 (dk_at dksX3_fixdown_4 15 rfl rfl)
theorem dX3_fixdown_110 : decode cX3_fixdown 110 = .ok (.getfield 31, 3) := dk_180 0 31 (dk_at dksX3_fixdown_4 16 rfl rfl)
theorem dX3_fixdown_113 : decode cX3_fixdown 113 = .ok (.iload_n 1, 1) := dk_27 (dk_at dksX3_fixdown_4 19 rfl rfl)
theorem dX3_fixdown_114 : decode cX3_fixdown 114 = .ok (.aload_n 0, 1) := dk_42 (dk_at dksX3_fixdown_4 20 rfl rfl)
theorem dX3_fixdown_115 : decode cX3_fixdown 115 = .ok (.getfield 31, 3) := dk_180 0 31 (dk_at dksX3_fixdown_4 21 rfl rfl)
theorem dX3_fixdown_118 : decode cX3_fixdown 118 = .ok (.iload 4, 2) := dk_21 4 (dk_at dksX3_fixdown_5 0 rfl rfl)
theorem dX3_fixdown_120 : decode cX3_fixdown 120 = .ok (.aaload, 1) := dk_50 (dk_at dksX3_fixdown_5 2 rfl rfl)
theorem dX3_fixdown_121 : decode cX3_fixdown 121 = .ok (.aastore, 1) := dk_83 (dk_at dksX3_fixdown_5 3 rfl rfl)
theorem dX3_fixdown_122 : decode cX3_fixdown 122 = .ok (.iload 4, 2) := dk_21 4 (dk_at dksX3_fixdown_5 4 rfl rfl)
theorem dX3_fixdown_124 : decode cX3_fixdown 124 = .ok (.istore_n 1, 1) := dk_60 (dk_at dksX3_fixdown_5 6 rfl rfl)
theorem dX3_fixdown_125 : decode cX3_fixdown 125 = .ok (.goto (-118), 3) := dk_167 255 138 (dk_at dksX3_fixdown_5 7 rfl rfl)
theorem dX3_fixdown_128 : decode cX3_fixdown 128 = .ok (.aload_n 0, 1) := dk_42 (dk_at dksX3_fixdown_5 10 rfl rfl)
theorem dX3_fixdown_129 : decode cX3_fixdown 129 = .ok (.getfield 31, 3) := dk_180 0 31 (dk_at dksX3_fixdown_5 11 rfl rfl)
theorem dX3_fixdown_132 : decode cX3_fixdown 132 = .ok (.iload_n 1, 1) := dk_27 (dk_at dksX3_fixdown_5 14 rfl rfl)
theorem dX3_fixdown_133 : decode cX3_fixdown 133 = .ok (.aload_n 3, 1) := dk_45 (dk_at dksX3_fixdown_5 15 rfl rfl)
theorem dX3_fixdown_134 : decode cX3_fixdown 134 = .ok (.aastore, 1) := dk_83 (dk_at dksX3_fixdown_5 16 rfl rfl)
theorem dX3_fixdown_135 : decode cX3_fixdown 135 = .ok (.return_, 1) := dk_177 (dk_at dksX3_fixdown_5 17 rfl rfl)
abbrev cX3_heapify_2 : ByteArray := prog_4_method_6_code
def yX3_heapify_2 : MethodName := ⟨RX3, "heapify", "(I[Ljava/lang/Object;Ljava/util/Comparator;)LDaryArrayHeap;"⟩
def dkwX3_heapify_2_4 : List UInt8 := [167, 255, 242, 45, 176]
abbrev dktX3_heapify_2_4 : List UInt8 := dkwX3_heapify_2_4 ++ []
def dkwX3_heapify_2_3 : List UInt8 := [181, 0, 41, 43, 190, 26, 108, 54, 4, 21, 4, 158, 0, 15, 45, 21, 4, 182, 0, 50, 132, 4, 255]
abbrev dktX3_heapify_2_3 : List UInt8 := dkwX3_heapify_2_3 ++ dktX3_heapify_2_4
def dkwX3_heapify_2_2 : List UInt8 := [89, 26, 44, 43, 190, 183, 0, 3, 78, 43, 3, 45, 180, 0, 31, 4, 43, 190, 184, 0, 35, 45, 43, 190]
abbrev dktX3_heapify_2_2 : List UInt8 := dkwX3_heapify_2_2 ++ dktX3_heapify_2_3
def dkwX3_heapify_2_1 : List UInt8 := [18, 23, 183, 0, 16, 191, 43, 190, 154, 0, 13, 187, 0, 1, 89, 26, 44, 183, 0, 47, 176, 187, 0, 1]
abbrev dktX3_heapify_2_1 : List UInt8 := dkwX3_heapify_2_1 ++ dktX3_heapify_2_2
def dkwX3_heapify_2_0 : List UInt8 := [26, 5, 162, 0, 13, 187, 0, 12, 89, 18, 14, 183, 0, 16, 191, 43, 199, 0, 13, 187, 0, 12, 89]
abbrev dktX3_heapify_2_0 : List UInt8 := dkwX3_heapify_2_0 ++ dktX3_heapify_2_1
theorem dksX3_heapify_2_0 : cX3_heapify_2.data.toList.drop 0 = dktX3_heapify_2_0 := by decide +kernel
theorem dksX3_heapify_2_1 : cX3_heapify_2.data.toList.drop 23 = dktX3_heapify_2_1 := dk_seg dksX3_heapify_2_0 23 rfl rfl
theorem dksX3_heapify_2_2 : cX3_heapify_2.data.toList.drop 47 = dktX3_heapify_2_2 := dk_seg dksX3_heapify_2_1 24 rfl rfl
theorem dksX3_heapify_2_3 : cX3_heapify_2.data.toList.drop 71 = dktX3_heapify_2_3 := dk_seg dksX3_heapify_2_2 24 rfl rfl
theorem dksX3_heapify_2_4 : cX3_heapify_2.data.toList.drop 94 = dktX3_heapify_2_4 := dk_seg dksX3_heapify_2_3 23 rfl rfl
theorem dX3_heapify_2_0 : decode cX3_heapify_2 0 = .ok (.iload_n 0, 1) := dk_26 (dk_at dksX3_heapify_2_0 0 rfl rfl)
theorem dX3_heapify_2_1 : decode cX3_heapify_2 1 = .ok (.iconst 2, 1) := dk_5 (dk_at dksX3_heapify_2_0 1 rfl rfl)
theorem dX3_heapify_2_2 : decode cX3_heapify_2 2 = .ok (.if_icmp .ge 13, 3) := dk_162 0 13 (dk_at dksX3_heapify_2_0 2 rfl rfl)
theorem dX3_heapify_2_5 : decode cX3_heapify_2 5 = .ok (.new 12, 3) := dk_187 0 12 (dk_at dksX3_heapify_2_0 5 rfl rfl)
theorem dX3_heapify_2_8 : decode cX3_heapify_2 8 = .ok (.dup, 1) := dk_89 (dk_at dksX3_heapify_2_0 8 rfl rfl)
theorem dX3_heapify_2_9 : decode cX3_heapify_2 9 = .ok (.ldc 14, 2) := dk_18 14 (dk_at dksX3_heapify_2_0 9 rfl rfl)
theorem dX3_heapify_2_11 : decode cX3_heapify_2 11 = .ok (.invokespecial 16, 3) := dk_183 0 16 (dk_at dksX3_heapify_2_0 11 rfl rfl)
theorem dX3_heapify_2_14 : decode cX3_heapify_2 14 = .ok (.athrow, 1) := dk_191 (dk_at dksX3_heapify_2_0 14 rfl rfl)
theorem dX3_heapify_2_15 : decode cX3_heapify_2 15 = .ok (.aload_n 1, 1) := dk_43 (dk_at dksX3_heapify_2_0 15 rfl rfl)
theorem dX3_heapify_2_16 : decode cX3_heapify_2 16 = .ok (.ifnonnull 13, 3) := dk_199 0 13 (dk_at dksX3_heapify_2_0 16 rfl rfl)
theorem dX3_heapify_2_19 : decode cX3_heapify_2 19 = .ok (.new 12, 3) := dk_187 0 12 (dk_at dksX3_heapify_2_0 19 rfl rfl)
theorem dX3_heapify_2_22 : decode cX3_heapify_2 22 = .ok (.dup, 1) := dk_89 (dk_at dksX3_heapify_2_0 22 rfl rfl)
theorem dX3_heapify_2_23 : decode cX3_heapify_2 23 = .ok (.ldc 23, 2) := dk_18 23 (dk_at dksX3_heapify_2_1 0 rfl rfl)
theorem dX3_heapify_2_25 : decode cX3_heapify_2 25 = .ok (.invokespecial 16, 3) := dk_183 0 16 (dk_at dksX3_heapify_2_1 2 rfl rfl)
theorem dX3_heapify_2_28 : decode cX3_heapify_2 28 = .ok (.athrow, 1) := dk_191 (dk_at dksX3_heapify_2_1 5 rfl rfl)
theorem dX3_heapify_2_29 : decode cX3_heapify_2 29 = .ok (.aload_n 1, 1) := dk_43 (dk_at dksX3_heapify_2_1 6 rfl rfl)
theorem dX3_heapify_2_30 : decode cX3_heapify_2 30 = .ok (.arraylength, 1) := dk_190 (dk_at dksX3_heapify_2_1 7 rfl rfl)
theorem dX3_heapify_2_31 : decode cX3_heapify_2 31 = .ok (.ifCond .ne 13, 3) := dk_154 0 13 (dk_at dksX3_heapify_2_1 8 rfl rfl)
theorem dX3_heapify_2_34 : decode cX3_heapify_2 34 = .ok (.new 1, 3) := dk_187 0 1 (dk_at dksX3_heapify_2_1 11 rfl rfl)
theorem dX3_heapify_2_37 : decode cX3_heapify_2 37 = .ok (.dup, 1) := dk_89 (dk_at dksX3_heapify_2_1 14 rfl rfl)
theorem dX3_heapify_2_38 : decode cX3_heapify_2 38 = .ok (.iload_n 0, 1) := dk_26 (dk_at dksX3_heapify_2_1 15 rfl rfl)
theorem dX3_heapify_2_39 : decode cX3_heapify_2 39 = .ok (.aload_n 2, 1) := dk_44 (dk_at dksX3_heapify_2_1 16 rfl rfl)
theorem dX3_heapify_2_40 : decode cX3_heapify_2 40 = .ok (.invokespecial 47, 3) := dk_183 0 47 (dk_at dksX3_heapify_2_1 17 rfl rfl)
theorem dX3_heapify_2_43 : decode cX3_heapify_2 43 = .ok (.areturn, 1) := dk_176 (dk_at dksX3_heapify_2_1 20 rfl rfl)
theorem dX3_heapify_2_44 : decode cX3_heapify_2 44 = .ok (.new 1, 3) := dk_187 0 1 (dk_at dksX3_heapify_2_1 21 rfl rfl)
theorem dX3_heapify_2_47 : decode cX3_heapify_2 47 = .ok (.dup, 1) := dk_89 (dk_at dksX3_heapify_2_2 0 rfl rfl)
theorem dX3_heapify_2_48 : decode cX3_heapify_2 48 = .ok (.iload_n 0, 1) := dk_26 (dk_at dksX3_heapify_2_2 1 rfl rfl)
theorem dX3_heapify_2_49 : decode cX3_heapify_2 49 = .ok (.aload_n 2, 1) := dk_44 (dk_at dksX3_heapify_2_2 2 rfl rfl)
theorem dX3_heapify_2_50 : decode cX3_heapify_2 50 = .ok (.aload_n 1, 1) := dk_43 (dk_at dksX3_heapify_2_2 3 rfl rfl)
theorem dX3_heapify_2_51 : decode cX3_heapify_2 51 = .ok (.arraylength, 1) := dk_190 (dk_at dksX3_heapify_2_2 4 rfl rfl)
theorem dX3_heapify_2_52 : decode cX3_heapify_2 52 = .ok (.invokespecial 3, 3) := dk_183 0 3 (dk_at dksX3_heapify_2_2 5 rfl rfl)
theorem dX3_heapify_2_55 : decode cX3_heapify_2 55 = .ok (.astore_n 3, 1) := dk_78 (dk_at dksX3_heapify_2_2 8 rfl rfl)
theorem dX3_heapify_2_56 : decode cX3_heapify_2 56 = .ok (.aload_n 1, 1) := dk_43 (dk_at dksX3_heapify_2_2 9 rfl rfl)
theorem dX3_heapify_2_57 : decode cX3_heapify_2 57 = .ok (.iconst 0, 1) := dk_3 (dk_at dksX3_heapify_2_2 10 rfl rfl)
theorem dX3_heapify_2_58 : decode cX3_heapify_2 58 = .ok (.aload_n 3, 1) := dk_45 (dk_at dksX3_heapify_2_2 11 rfl rfl)
theorem dX3_heapify_2_59 : decode cX3_heapify_2 59 = .ok (.getfield 31, 3) := dk_180 0 31 (dk_at dksX3_heapify_2_2 12 rfl rfl)
theorem dX3_heapify_2_62 : decode cX3_heapify_2 62 = .ok (.iconst 1, 1) := dk_4 (dk_at dksX3_heapify_2_2 15 rfl rfl)
theorem dX3_heapify_2_63 : decode cX3_heapify_2 63 = .ok (.aload_n 1, 1) := dk_43 (dk_at dksX3_heapify_2_2 16 rfl rfl)
theorem dX3_heapify_2_64 : decode cX3_heapify_2 64 = .ok (.arraylength, 1) := dk_190 (dk_at dksX3_heapify_2_2 17 rfl rfl)
theorem dX3_heapify_2_65 : decode cX3_heapify_2 65 = .ok (.invokestatic 35, 3) := dk_184 0 35 (dk_at dksX3_heapify_2_2 18 rfl rfl)
theorem dX3_heapify_2_68 : decode cX3_heapify_2 68 = .ok (.aload_n 3, 1) := dk_45 (dk_at dksX3_heapify_2_2 21 rfl rfl)
theorem dX3_heapify_2_69 : decode cX3_heapify_2 69 = .ok (.aload_n 1, 1) := dk_43 (dk_at dksX3_heapify_2_2 22 rfl rfl)
theorem dX3_heapify_2_70 : decode cX3_heapify_2 70 = .ok (.arraylength, 1) := dk_190 (dk_at dksX3_heapify_2_2 23 rfl rfl)
theorem dX3_heapify_2_71 : decode cX3_heapify_2 71 = .ok (.putfield 41, 3) := dk_181 0 41 (dk_at dksX3_heapify_2_3 0 rfl rfl)
theorem dX3_heapify_2_74 : decode cX3_heapify_2 74 = .ok (.aload_n 1, 1) := dk_43 (dk_at dksX3_heapify_2_3 3 rfl rfl)
theorem dX3_heapify_2_75 : decode cX3_heapify_2 75 = .ok (.arraylength, 1) := dk_190 (dk_at dksX3_heapify_2_3 4 rfl rfl)
theorem dX3_heapify_2_76 : decode cX3_heapify_2 76 = .ok (.iload_n 0, 1) := dk_26 (dk_at dksX3_heapify_2_3 5 rfl rfl)
theorem dX3_heapify_2_77 : decode cX3_heapify_2 77 = .ok (.idiv, 1) := dk_108 (dk_at dksX3_heapify_2_3 6 rfl rfl)
theorem dX3_heapify_2_78 : decode cX3_heapify_2 78 = .ok (.istore 4, 2) := dk_54 4 (dk_at dksX3_heapify_2_3 7 rfl rfl)
theorem dX3_heapify_2_80 : decode cX3_heapify_2 80 = .ok (.iload 4, 2) := dk_21 4 (dk_at dksX3_heapify_2_3 9 rfl rfl)
theorem dX3_heapify_2_82 : decode cX3_heapify_2 82 = .ok (.ifCond .le 15, 3) := dk_158 0 15 (dk_at dksX3_heapify_2_3 11 rfl rfl)
theorem dX3_heapify_2_85 : decode cX3_heapify_2 85 = .ok (.aload_n 3, 1) := dk_45 (dk_at dksX3_heapify_2_3 14 rfl rfl)
theorem dX3_heapify_2_86 : decode cX3_heapify_2 86 = .ok (.iload 4, 2) := dk_21 4 (dk_at dksX3_heapify_2_3 15 rfl rfl)
theorem dX3_heapify_2_88 : decode cX3_heapify_2 88 = .ok (.invokevirtual 50, 3) := dk_182 0 50 (dk_at dksX3_heapify_2_3 17 rfl rfl)
theorem dX3_heapify_2_91 : decode cX3_heapify_2 91 = .ok (.iinc 4 (-1), 3) := dk_132 4 255 (dk_at dksX3_heapify_2_3 20 rfl rfl)
theorem dX3_heapify_2_94 : decode cX3_heapify_2 94 = .ok (.goto (-14), 3) := dk_167 255 242 (dk_at dksX3_heapify_2_4 0 rfl rfl)
theorem dX3_heapify_2_97 : decode cX3_heapify_2 97 = .ok (.aload_n 3, 1) := dk_45 (dk_at dksX3_heapify_2_4 3 rfl rfl)
theorem dX3_heapify_2_98 : decode cX3_heapify_2 98 = .ok (.areturn, 1) := dk_176 (dk_at dksX3_heapify_2_4 4 rfl rfl)
abbrev cX3_fixdownWithComparator : ByteArray := prog_4_method_11_code
def yX3_fixdownWithComparator : MethodName := ⟨RX3, "fixdownWithComparator", "(I)V"⟩
def dkwX3_fixdownWithComparator_6 : List UInt8 := [83, 177]
abbrev dktX3_fixdownWithComparator_6 : List UInt8 := dkwX3_fixdownWithComparator_6 ++ []
def dkwX3_fixdownWithComparator_5 : List UInt8 := [180, 0, 31, 27, 42, 180, 0, 31, 21, 4, 50, 83, 21, 4, 60, 167, 255, 132, 42, 180, 0, 31, 27, 45]
abbrev dktX3_fixdownWithComparator_5 : List UInt8 := dkwX3_fixdownWithComparator_5 ++ dktX3_fixdownWithComparator_6
def dkwX3_fixdownWithComparator_4 : List UInt8 := [180, 0, 66, 45, 42, 180, 0, 31, 21, 4, 50, 185, 0, 70, 3, 0, 157, 0, 6, 167, 0, 22, 42]
abbrev dktX3_fixdownWithComparator_4 : List UInt8 := dkwX3_fixdownWithComparator_4 ++ dktX3_fixdownWithComparator_5
def dkwX3_fixdownWithComparator_3 : List UInt8 := [96, 50, 185, 0, 70, 3, 0, 158, 0, 9, 28, 21, 5, 96, 54, 4, 132, 5, 1, 167, 255, 199, 42]
abbrev dktX3_fixdownWithComparator_3 : List UInt8 := dkwX3_fixdownWithComparator_3 ++ dktX3_fixdownWithComparator_4
def dkwX3_fixdownWithComparator_2 : List UInt8 := [180, 0, 41, 163, 0, 37, 42, 180, 0, 66, 42, 180, 0, 31, 21, 4, 50, 42, 180, 0, 31, 28, 21, 5]
abbrev dktX3_fixdownWithComparator_2 : List UInt8 := dkwX3_fixdownWithComparator_2 ++ dktX3_fixdownWithComparator_3
def dkwX3_fixdownWithComparator_1 : List UInt8 := [163, 0, 111, 28, 54, 4, 4, 54, 5, 21, 5, 42, 180, 0, 19, 162, 0, 54, 28, 21, 5, 96, 42]
abbrev dktX3_fixdownWithComparator_1 : List UInt8 := dkwX3_fixdownWithComparator_1 ++ dktX3_fixdownWithComparator_2
def dkwX3_fixdownWithComparator_0 : List UInt8 := [42, 180, 0, 31, 27, 50, 78, 42, 180, 0, 19, 27, 4, 100, 104, 5, 96, 89, 61, 42, 180, 0, 41]
abbrev dktX3_fixdownWithComparator_0 : List UInt8 := dkwX3_fixdownWithComparator_0 ++ dktX3_fixdownWithComparator_1
theorem dksX3_fixdownWithComparator_0 : cX3_fixdownWithComparator.data.toList.drop 0 = dktX3_fixdownWithComparator_0 := by decide +kernel
theorem dksX3_fixdownWithComparator_1 : cX3_fixdownWithComparator.data.toList.drop 23 = dktX3_fixdownWithComparator_1 := dk_seg dksX3_fixdownWithComparator_0 23 rfl rfl
theorem dksX3_fixdownWithComparator_2 : cX3_fixdownWithComparator.data.toList.drop 46 = dktX3_fixdownWithComparator_2 := dk_seg dksX3_fixdownWithComparator_1 23 rfl rfl
theorem dksX3_fixdownWithComparator_3 : cX3_fixdownWithComparator.data.toList.drop 70 = dktX3_fixdownWithComparator_3 := dk_seg dksX3_fixdownWithComparator_2 24 rfl rfl
theorem dksX3_fixdownWithComparator_4 : cX3_fixdownWithComparator.data.toList.drop 93 = dktX3_fixdownWithComparator_4 := dk_seg dksX3_fixdownWithComparator_3 23 rfl rfl
theorem dksX3_fixdownWithComparator_5 : cX3_fixdownWithComparator.data.toList.drop 116 = dktX3_fixdownWithComparator_5 := dk_seg dksX3_fixdownWithComparator_4 23 rfl rfl
theorem dksX3_fixdownWithComparator_6 : cX3_fixdownWithComparator.data.toList.drop 140 = dktX3_fixdownWithComparator_6 := dk_seg dksX3_fixdownWithComparator_5 24 rfl rfl
theorem dX3_fixdownWithComparator_0 : decode cX3_fixdownWithComparator 0 = .ok (.aload_n 0, 1) := dk_42 (dk_at dksX3_fixdownWithComparator_0 0 rfl rfl)
theorem dX3_fixdownWithComparator_1 : decode cX3_fixdownWithComparator 1 = .ok (.getfield 31, 3) := dk_180 0 31 (dk_at dksX3_fixdownWithComparator_0 1 rfl rfl)
theorem dX3_fixdownWithComparator_4 : decode cX3_fixdownWithComparator 4 = .ok (.iload_n 1, 1) := dk_27 (dk_at dksX3_fixdownWithComparator_0 4 rfl rfl)
theorem dX3_fixdownWithComparator_5 : decode cX3_fixdownWithComparator 5 = .ok (.aaload, 1) := dk_50 (dk_at dksX3_fixdownWithComparator_0 5 rfl rfl)
theorem dX3_fixdownWithComparator_6 : decode cX3_fixdownWithComparator 6 = .ok (.astore_n 3, 1) := dk_78 (dk_at dksX3_fixdownWithComparator_0 6 rfl rfl)
theorem dX3_fixdownWithComparator_7 : decode cX3_fixdownWithComparator 7 = .ok (.aload_n 0, 1) := dk_42 (dk_at dksX3_fixdownWithComparator_0 7 rfl rfl)
theorem dX3_fixdownWithComparator_8 : decode cX3_fixdownWithComparator 8 = .ok (.getfield 19, 3) := dk_180 0 19 (dk_at dksX3_fixdownWithComparator_0 8 rfl rfl)
theorem dX3_fixdownWithComparator_11 : decode cX3_fixdownWithComparator 11 = .ok (.iload_n 1, 1) := dk_27 (dk_at dksX3_fixdownWithComparator_0 11 rfl rfl)
theorem dX3_fixdownWithComparator_12 : decode cX3_fixdownWithComparator 12 = .ok (.iconst 1, 1) := dk_4 (dk_at dksX3_fixdownWithComparator_0 12 rfl rfl)
theorem dX3_fixdownWithComparator_13 : decode cX3_fixdownWithComparator 13 = .ok (.isub, 1) := dk_100 (dk_at dksX3_fixdownWithComparator_0 13 rfl rfl)
theorem dX3_fixdownWithComparator_14 : decode cX3_fixdownWithComparator 14 = .ok (.imul, 1) := dk_104 (dk_at dksX3_fixdownWithComparator_0 14 rfl rfl)
theorem dX3_fixdownWithComparator_15 : decode cX3_fixdownWithComparator 15 = .ok (.iconst 2, 1) := dk_5 (dk_at dksX3_fixdownWithComparator_0 15 rfl rfl)
theorem dX3_fixdownWithComparator_16 : decode cX3_fixdownWithComparator 16 = .ok (.iadd, 1) := dk_96 (dk_at dksX3_fixdownWithComparator_0 16 rfl rfl)
theorem dX3_fixdownWithComparator_17 : decode cX3_fixdownWithComparator 17 = .ok (.dup, 1) := dk_89 (dk_at dksX3_fixdownWithComparator_0 17 rfl rfl)
theorem dX3_fixdownWithComparator_18 : decode cX3_fixdownWithComparator 18 = .ok (.istore_n 2, 1) := dk_61 (dk_at dksX3_fixdownWithComparator_0 18 rfl rfl)
theorem dX3_fixdownWithComparator_19 : decode cX3_fixdownWithComparator 19 = .ok (.aload_n 0, 1) := dk_42 (dk_at dksX3_fixdownWithComparator_0 19 rfl rfl)
theorem dX3_fixdownWithComparator_20 : decode cX3_fixdownWithComparator 20 = .ok (.getfield 41, 3) := dk_180 0 41 (dk_at dksX3_fixdownWithComparator_0 20 rfl rfl)
theorem dX3_fixdownWithComparator_23 : decode cX3_fixdownWithComparator 23 = .ok (.if_icmp .gt 111, 3) := dk_163 0 111 (dk_at dksX3_fixdownWithComparator_1 0 rfl rfl)
theorem dX3_fixdownWithComparator_26 : decode cX3_fixdownWithComparator 26 = .ok (.iload_n 2, 1) := dk_28 (dk_at dksX3_fixdownWithComparator_1 3 rfl rfl)
theorem dX3_fixdownWithComparator_27 : decode cX3_fixdownWithComparator 27 = .ok (.istore 4, 2) := dk_54 4 (dk_at dksX3_fixdownWithComparator_1 4 rfl rfl)
theorem dX3_fixdownWithComparator_29 : decode cX3_fixdownWithComparator 29 = .ok (.iconst 1, 1) := dk_4 (dk_at dksX3_fixdownWithComparator_1 6 rfl rfl)
theorem dX3_fixdownWithComparator_30 : decode cX3_fixdownWithComparator 30 = .ok (.istore 5, 2) := dk_54 5 (dk_at dksX3_fixdownWithComparator_1 7 rfl rfl)
theorem dX3_fixdownWithComparator_32 : decode cX3_fixdownWithComparator 32 = .ok (.iload 5, 2) := dk_21 5 (dk_at dksX3_fixdownWithComparator_1 9 rfl rfl)
theorem dX3_fixdownWithComparator_34 : decode cX3_fixdownWithComparator 34 = .ok (.aload_n 0, 1) := dk_42 (dk_at dksX3_fixdownWithComparator_1 11 rfl rfl)
theorem dX3_fixdownWithComparator_35 : decode cX3_fixdownWithComparator 35 = .ok (.getfield 19, 3) := dk_180 0 19 (dk_at dksX3_fixdownWithComparator_1 12 rfl rfl)
theorem dX3_fixdownWithComparator_38 : decode cX3_fixdownWithComparator 38 = .ok (.if_icmp .ge 54, 3) := dk_162 0 54 (dk_at dksX3_fixdownWithComparator_1 15 rfl rfl)
theorem dX3_fixdownWithComparator_41 : decode cX3_fixdownWithComparator 41 = .ok (.iload_n 2, 1) := dk_28 (dk_at dksX3_fixdownWithComparator_1 18 rfl rfl)
theorem dX3_fixdownWithComparator_42 : decode cX3_fixdownWithComparator 42 = .ok (.iload 5, 2) := dk_21 5 (dk_at dksX3_fixdownWithComparator_1 19 rfl rfl)
theorem dX3_fixdownWithComparator_44 : decode cX3_fixdownWithComparator 44 = .ok (.iadd, 1) := dk_96 (dk_at dksX3_fixdownWithComparator_1 21 rfl rfl)
theorem dX3_fixdownWithComparator_45 : decode cX3_fixdownWithComparator 45 = .ok (.aload_n 0, 1) := dk_42 (dk_at dksX3_fixdownWithComparator_1 22 rfl rfl)
theorem dX3_fixdownWithComparator_46 : decode cX3_fixdownWithComparator 46 = .ok (.getfield 41, 3) := dk_180 0 41 (dk_at dksX3_fixdownWithComparator_2 0 rfl rfl)
theorem dX3_fixdownWithComparator_49 : decode cX3_fixdownWithComparator 49 = .ok (.if_icmp .gt 37, 3) := dk_163 0 37 (dk_at dksX3_fixdownWithComparator_2 3 rfl rfl)
theorem dX3_fixdownWithComparator_52 : decode cX3_fixdownWithComparator 52 = .ok (.aload_n 0, 1) := dk_42 (dk_at dksX3_fixdownWithComparator_2 6 rfl rfl)
theorem dX3_fixdownWithComparator_53 : decode cX3_fixdownWithComparator 53 = .ok (.getfield 66, 3) := dk_180 0 66 (dk_at dksX3_fixdownWithComparator_2 7 rfl rfl)
theorem dX3_fixdownWithComparator_56 : decode cX3_fixdownWithComparator 56 = .ok (.aload_n 0, 1) := dk_42 (dk_at dksX3_fixdownWithComparator_2 10 rfl rfl)
theorem dX3_fixdownWithComparator_57 : decode cX3_fixdownWithComparator 57 = .ok (.getfield 31, 3) := dk_180 0 31 (dk_at dksX3_fixdownWithComparator_2 11 rfl rfl)
theorem dX3_fixdownWithComparator_60 : decode cX3_fixdownWithComparator 60 = .ok (.iload 4, 2) := dk_21 4 (dk_at dksX3_fixdownWithComparator_2 14 rfl rfl)
theorem dX3_fixdownWithComparator_62 : decode cX3_fixdownWithComparator 62 = .ok (.aaload, 1) := dk_50 (dk_at dksX3_fixdownWithComparator_2 16 rfl rfl)
theorem dX3_fixdownWithComparator_63 : decode cX3_fixdownWithComparator 63 = .ok (.aload_n 0, 1) := dk_42 (dk_at dksX3_fixdownWithComparator_2 17 rfl rfl)
theorem dX3_fixdownWithComparator_64 : decode cX3_fixdownWithComparator 64 = .ok (.getfield 31, 3) := dk_180 0 31 (dk_at dksX3_fixdownWithComparator_2 18 rfl rfl)
theorem dX3_fixdownWithComparator_67 : decode cX3_fixdownWithComparator 67 = .ok (.iload_n 2, 1) := dk_28 (dk_at dksX3_fixdownWithComparator_2 21 rfl rfl)
theorem dX3_fixdownWithComparator_68 : decode cX3_fixdownWithComparator 68 = .ok (.iload 5, 2) := dk_21 5 (dk_at dksX3_fixdownWithComparator_2 22 rfl rfl)
theorem dX3_fixdownWithComparator_70 : decode cX3_fixdownWithComparator 70 = .ok (.iadd, 1) := dk_96 (dk_at dksX3_fixdownWithComparator_3 0 rfl rfl)
theorem dX3_fixdownWithComparator_71 : decode cX3_fixdownWithComparator 71 = .ok (.aaload, 1) := dk_50 (dk_at dksX3_fixdownWithComparator_3 1 rfl rfl)
theorem dX3_fixdownWithComparator_72 : decode cX3_fixdownWithComparator 72 = .ok (.invokeinterface 70 3, 5) := by decide +kernel
theorem dX3_fixdownWithComparator_77 : decode cX3_fixdownWithComparator 77 = .ok (.ifCond .le 9, 3) := dk_158 0 9 (dk_at dksX3_fixdownWithComparator_3 7 rfl rfl)
theorem dX3_fixdownWithComparator_80 : decode cX3_fixdownWithComparator 80 = .ok (.iload_n 2, 1) := dk_28 (dk_at dksX3_fixdownWithComparator_3 10 rfl rfl)
theorem dX3_fixdownWithComparator_81 : decode cX3_fixdownWithComparator 81 = .ok (.iload 5, 2) := dk_21 5 (dk_at dksX3_fixdownWithComparator_3 11 rfl rfl)
theorem dX3_fixdownWithComparator_83 : decode cX3_fixdownWithComparator 83 = .ok (.iadd, 1) := dk_96 (dk_at dksX3_fixdownWithComparator_3 13 rfl rfl)
theorem dX3_fixdownWithComparator_84 : decode cX3_fixdownWithComparator 84 = .ok (.istore 4, 2) := dk_54 4 (dk_at dksX3_fixdownWithComparator_3 14 rfl rfl)
theorem dX3_fixdownWithComparator_86 : decode cX3_fixdownWithComparator 86 = .ok (.iinc 5 1, 3) := dk_132 5 1 (dk_at dksX3_fixdownWithComparator_3 16 rfl rfl)
theorem dX3_fixdownWithComparator_89 : decode cX3_fixdownWithComparator 89 = .ok (.goto (-57), 3) := dk_167 255 199 (dk_at dksX3_fixdownWithComparator_3 19 rfl rfl)
theorem dX3_fixdownWithComparator_92 : decode cX3_fixdownWithComparator 92 = .ok (.aload_n 0, 1) := dk_42 (dk_at dksX3_fixdownWithComparator_3 22 rfl rfl)
theorem dX3_fixdownWithComparator_93 : decode cX3_fixdownWithComparator 93 = .ok (.getfield 66, 3) := dk_180 0 66 (dk_at dksX3_fixdownWithComparator_4 0 rfl rfl)
theorem dX3_fixdownWithComparator_96 : decode cX3_fixdownWithComparator 96 = .ok (.aload_n 3, 1) := dk_45 (dk_at dksX3_fixdownWithComparator_4 3 rfl rfl)
theorem dX3_fixdownWithComparator_97 : decode cX3_fixdownWithComparator 97 = .ok (.aload_n 0, 1) := dk_42 (dk_at dksX3_fixdownWithComparator_4 4 rfl rfl)
theorem dX3_fixdownWithComparator_98 : decode cX3_fixdownWithComparator 98 = .ok (.getfield 31, 3) := dk_180 0 31 (dk_at dksX3_fixdownWithComparator_4 5 rfl rfl)
theorem dX3_fixdownWithComparator_101 : decode cX3_fixdownWithComparator 101 = .ok (.iload 4, 2) := dk_21 4 (dk_at dksX3_fixdownWithComparator_4 8 rfl rfl)
theorem dX3_fixdownWithComparator_103 : decode cX3_fixdownWithComparator 103 = .ok (.aaload, 1) := dk_50 (dk_at dksX3_fixdownWithComparator_4 10 rfl rfl)
theorem dX3_fixdownWithComparator_104 : decode cX3_fixdownWithComparator 104 = .ok (.invokeinterface 70 3, 5) := by decide +kernel
theorem dX3_fixdownWithComparator_109 : decode cX3_fixdownWithComparator 109 = .ok (.ifCond .gt 6, 3) := dk_157 0 6 (dk_at dksX3_fixdownWithComparator_4 16 rfl rfl)
theorem dX3_fixdownWithComparator_112 : decode cX3_fixdownWithComparator 112 = .ok (.goto 22, 3) := dk_167 0 22 (dk_at dksX3_fixdownWithComparator_4 19 rfl rfl)
theorem dX3_fixdownWithComparator_115 : decode cX3_fixdownWithComparator 115 = .ok (.aload_n 0, 1) := dk_42 (dk_at dksX3_fixdownWithComparator_4 22 rfl rfl)
theorem dX3_fixdownWithComparator_116 : decode cX3_fixdownWithComparator 116 = .ok (.getfield 31, 3) := dk_180 0 31 (dk_at dksX3_fixdownWithComparator_5 0 rfl rfl)
theorem dX3_fixdownWithComparator_119 : decode cX3_fixdownWithComparator 119 = .ok (.iload_n 1, 1) := dk_27 (dk_at dksX3_fixdownWithComparator_5 3 rfl rfl)
theorem dX3_fixdownWithComparator_120 : decode cX3_fixdownWithComparator 120 = .ok (.aload_n 0, 1) := dk_42 (dk_at dksX3_fixdownWithComparator_5 4 rfl rfl)
theorem dX3_fixdownWithComparator_121 : decode cX3_fixdownWithComparator 121 = .ok (.getfield 31, 3) := dk_180 0 31 (dk_at dksX3_fixdownWithComparator_5 5 rfl rfl)
theorem dX3_fixdownWithComparator_124 : decode cX3_fixdownWithComparator 124 = .ok (.iload 4, 2) := dk_21 4 (dk_at dksX3_fixdownWithComparator_5 8 rfl rfl)
theorem dX3_fixdownWithComparator_126 : decode cX3_fixdownWithComparator 126 = .ok (.aaload, 1) := dk_50 (dk_at dksX3_fixdownWithComparator_5 10 rfl rfl)
theorem dX3_fixdownWithComparator_127 : decode cX3_fixdownWithComparator 127 = .ok (.aastore, 1) := dk_83 (dk_at dksX3_fixdownWithComparator_5 11 rfl rfl)
theorem dX3_fixdownWithComparator_128 : decode cX3_fixdownWithComparator 128 = .ok (.iload 4, 2) := dk_21 4 (dk_at dksX3_fixdownWithComparator_5 12 rfl rfl)
theorem dX3_fixdownWithComparator_130 : decode cX3_fixdownWithComparator 130 = .ok (.istore_n 1, 1) := dk_60 (dk_at dksX3_fixdownWithComparator_5 14 rfl rfl)
theorem dX3_fixdownWithComparator_131 : decode cX3_fixdownWithComparator 131 = .ok (.goto (-124), 3) := dk_167 255 132 (dk_at dksX3_fixdownWithComparator_5 15 rfl rfl)
theorem dX3_fixdownWithComparator_134 : decode cX3_fixdownWithComparator 134 = .ok (.aload_n 0, 1) := dk_42 (dk_at dksX3_fixdownWithComparator_5 18 rfl rfl)
theorem dX3_fixdownWithComparator_135 : decode cX3_fixdownWithComparator 135 = .ok (.getfield 31, 3) := dk_180 0 31 (dk_at dksX3_fixdownWithComparator_5 19 rfl rfl)
theorem dX3_fixdownWithComparator_138 : decode cX3_fixdownWithComparator 138 = .ok (.iload_n 1, 1) := dk_27 (dk_at dksX3_fixdownWithComparator_5 22 rfl rfl)
theorem dX3_fixdownWithComparator_139 : decode cX3_fixdownWithComparator 139 = .ok (.aload_n 3, 1) := dk_45 (dk_at dksX3_fixdownWithComparator_5 23 rfl rfl)
theorem dX3_fixdownWithComparator_140 : decode cX3_fixdownWithComparator 140 = .ok (.aastore, 1) := dk_83 (dk_at dksX3_fixdownWithComparator_6 0 rfl rfl)
theorem dX3_fixdownWithComparator_141 : decode cX3_fixdownWithComparator 141 = .ok (.return_, 1) := dk_177 (dk_at dksX3_fixdownWithComparator_6 1 rfl rfl)
theorem q7 : (Jvm.Cond.initialized "DaryArrayHeap") ∈ lw_all := lw_g (lw_at lw_m1 4 rfl) rfl
theorem q36 : (Jvm.Cond.instantiable "DaryArrayHeap" (5 : Nat)) ∈ lw_all := lw_g (lw_at lw_m1 33 rfl) rfl
theorem q38 : (Jvm.Cond.instanceMethod ({ cls := "DaryArrayHeap", name := "<init>", desc := "(I)V" } : Jvm.MethodName)) ∈ lw_all := lw_g (lw_at lw_m1 35 rfl) rfl
theorem q39 : (Jvm.Cond.code ({ cls := "DaryArrayHeap", name := "<init>", desc := "(I)V" } : Jvm.MethodName) prog_4_method_1_code (2 : Nat) (Option.none : Option Jvm.ClassFile.FieldType)) ∈ lw_all := lw_g (lw_at lw_m1 36 rfl) rfl
theorem q40 : (Jvm.Cond.methodLink "DaryArrayHeap" (3 : Nat) ({ cls := "DaryArrayHeap", name := "<init>", desc := "(ILjava/util/Comparator;I)V" } : Jvm.MethodName)) ∈ lw_all := lw_g (lw_at lw_m1 37 rfl) rfl
theorem q41 : (Jvm.Cond.instanceMethod ({ cls := "DaryArrayHeap", name := "<init>", desc := "(ILjava/util/Comparator;I)V" } : Jvm.MethodName)) ∈ lw_all := lw_g (lw_at lw_m1 38 rfl) rfl
theorem q42 : (Jvm.Cond.code ({ cls := "DaryArrayHeap", name := "<init>", desc := "(ILjava/util/Comparator;I)V" } : Jvm.MethodName) prog_4_method_4_code (4 : Nat) (Option.none : Option Jvm.ClassFile.FieldType)) ∈ lw_all := lw_g (lw_at lw_m1 39 rfl) rfl
theorem q43 : (Jvm.Cond.methodLink "DaryArrayHeap" (7 : Nat) ({ cls := "AbstractArrayHeap", name := "<init>", desc := "(Ljava/util/Comparator;I)V" } : Jvm.MethodName)) ∈ lw_all := lw_g (lw_at lw_m1 40 rfl) rfl
theorem q53 : (Jvm.Cond.selects "DaryArrayHeap" ({ cls := "AbstractArrayWeakHeap", name := "checkCapacity", desc := "(I)V" } : Jvm.MethodName) ({ cls := "AbstractArrayWeakHeap", name := "checkCapacity", desc := "(I)V" } : Jvm.MethodName)) ∈ lw_all := lw_g (lw_at lw_m1 50 rfl) rfl
theorem q144 : (Jvm.Cond.selects "DaryArrayHeap" ({ cls := "AbstractArrayWeakHeap", name := "initCapacity", desc := "(I)V" } : Jvm.MethodName) ({ cls := "AbstractArrayHeap", name := "initCapacity", desc := "(I)V" } : Jvm.MethodName)) ∈ lw_all := lw_g (lw_at lw_m1 141 rfl) rfl
theorem q149 : (Jvm.Cond.classLink "DaryArrayHeap" (12 : Nat) "java/lang/IllegalArgumentException") ∈ lw_all := lw_g (lw_at lw_m1 146 rfl) rfl
theorem q150 : (Jvm.Cond.stringRef "DaryArrayHeap" (14 : Nat) "D-ary heaps must have at least 2 children per node") ∈ lw_tbl := lw_at lw_m1 147 rfl
theorem q151 : (Jvm.Cond.methodLink "DaryArrayHeap" (16 : Nat) ({ cls := "java/lang/IllegalArgumentException", name := "<init>", desc := "(Ljava/lang/String;)V" } : Jvm.MethodName)) ∈ lw_all := lw_g (lw_at lw_m1 148 rfl) rfl
theorem q152 : (Jvm.Cond.fieldLink "DaryArrayHeap" (19 : Nat) "DaryArrayHeap" "d" "I") ∈ lw_all := lw_g (lw_at lw_m1 149 rfl) rfl
theorem q156 : (Jvm.Cond.fieldLink "DaryArrayHeap" (66 : Nat) "DaryArrayHeap" "comparator" "Ljava/util/Comparator;") ∈ lw_all := lw_g (lw_at lw_m1 153 rfl) rfl
theorem q157 : (Jvm.Cond.sameField "DaryArrayHeap" "AbstractArrayWeakHeap" "comparator" "Ljava/util/Comparator;") ∈ lw_all := lw_g (lw_at lw_m1 154 rfl) rfl
theorem q160 : (Jvm.Cond.fieldLink "DaryArrayHeap" (31 : Nat) "DaryArrayHeap" "array" "[Ljava/lang/Object;") ∈ lw_all := lw_g (lw_at lw_m1 157 rfl) rfl
theorem q161 : (Jvm.Cond.sameField "DaryArrayHeap" "AbstractArrayWeakHeap" "array" "[Ljava/lang/Object;") ∈ lw_all := lw_g (lw_at lw_m1 158 rfl) rfl
theorem q165 : (Jvm.Cond.fieldLink "DaryArrayHeap" (41 : Nat) "DaryArrayHeap" "size" "I") ∈ lw_all := lw_g (lw_at lw_m1 162 rfl) rfl
theorem q166 : (Jvm.Cond.sameField "DaryArrayHeap" "AbstractArrayWeakHeap" "size" "I") ∈ lw_all := lw_g (lw_at lw_m1 163 rfl) rfl
theorem q170 : (Jvm.Cond.lays "DaryArrayHeap" "DaryArrayHeap" "d" "I") ∈ lw_all := lw_g (lw_at lw_m1 167 rfl) rfl
theorem q171 : (Jvm.Cond.soleField "DaryArrayHeap" "d") ∈ lw_all := lw_g (lw_at lw_m1 168 rfl) rfl
theorem q172 : (Jvm.Cond.laysFinal "DaryArrayHeap" "AbstractArrayWeakHeap" "comparator" "Ljava/util/Comparator;") ∈ lw_all := lw_g (lw_at lw_m1 169 rfl) rfl
theorem q174 : (Jvm.Cond.lays "DaryArrayHeap" "AbstractArrayWeakHeap" "array" "[Ljava/lang/Object;") ∈ lw_all := lw_g (lw_at lw_m1 171 rfl) rfl
theorem q176 : (Jvm.Cond.lays "DaryArrayHeap" "AbstractArrayWeakHeap" "size" "I") ∈ lw_all := lw_g (lw_at lw_m1 173 rfl) rfl
theorem q178 : (Jvm.Cond.laysFinal "DaryArrayHeap" "AbstractArrayWeakHeap" "minCapacity" "I") ∈ lw_all := lw_g (lw_at lw_m1 175 rfl) rfl
theorem q180 : (Jvm.Cond.superclass "DaryArrayHeap" "AbstractArrayHeap") ∈ lw_all := lw_g (lw_at lw_m1 177 rfl) rfl
theorem q184 : (Jvm.Cond.instanceMethod ({ cls := "DaryArrayHeap", name := "<init>", desc := "(ILjava/util/Comparator;)V" } : Jvm.MethodName)) ∈ lw_all := lw_g (lw_at lw_m1 181 rfl) rfl
theorem q185 : (Jvm.Cond.code ({ cls := "DaryArrayHeap", name := "<init>", desc := "(ILjava/util/Comparator;)V" } : Jvm.MethodName) prog_4_method_3_code (3 : Nat) (Option.none : Option Jvm.ClassFile.FieldType)) ∈ lw_all := lw_g (lw_at lw_m1 182 rfl) rfl
theorem q219 : (Jvm.Cond.sameMethod "DaryArrayHeap" "AbstractArrayHeap" "insert" "(Ljava/lang/Object;)V") ∈ lw_all := lw_g (lw_at lw_m1 216 rfl) rfl
theorem q221 : (Jvm.Cond.selects "DaryArrayHeap" ({ cls := "DaryArrayHeap", name := "insert", desc := "(Ljava/lang/Object;)V" } : Jvm.MethodName) ({ cls := "AbstractArrayHeap", name := "insert", desc := "(Ljava/lang/Object;)V" } : Jvm.MethodName)) ∈ lw_all := lw_g (lw_at lw_m1 218 rfl) rfl
theorem q245 : (Jvm.Cond.selects "DaryArrayHeap" ({ cls := "AbstractArrayHeap", name := "ensureCapacity", desc := "(I)V" } : Jvm.MethodName) ({ cls := "DaryArrayHeap", name := "ensureCapacity", desc := "(I)V" } : Jvm.MethodName)) ∈ lw_all := lw_g (lw_at lw_m2 2 rfl) rfl
theorem q246 : (Jvm.Cond.instanceMethod ({ cls := "DaryArrayHeap", name := "ensureCapacity", desc := "(I)V" } : Jvm.MethodName)) ∈ lw_all := lw_g (lw_at lw_m2 3 rfl) rfl
theorem q247 : (Jvm.Cond.code ({ cls := "DaryArrayHeap", name := "ensureCapacity", desc := "(I)V" } : Jvm.MethodName) prog_4_method_7_code (3 : Nat) (Option.none : Option Jvm.ClassFile.FieldType)) ∈ lw_all := lw_g (lw_at lw_m2 4 rfl) rfl
theorem q248 : (Jvm.Cond.methodLink "DaryArrayHeap" (53 : Nat) ({ cls := "DaryArrayHeap", name := "checkCapacity", desc := "(I)V" } : Jvm.MethodName)) ∈ lw_all := lw_g (lw_at lw_m2 5 rfl) rfl
theorem q249 : (Jvm.Cond.sameMethod "DaryArrayHeap" "AbstractArrayWeakHeap" "checkCapacity" "(I)V") ∈ lw_all := lw_g (lw_at lw_m2 6 rfl) rfl
theorem q251 : (Jvm.Cond.selects "DaryArrayHeap" ({ cls := "DaryArrayHeap", name := "checkCapacity", desc := "(I)V" } : Jvm.MethodName) ({ cls := "AbstractArrayWeakHeap", name := "checkCapacity", desc := "(I)V" } : Jvm.MethodName)) ∈ lw_all := lw_g (lw_at lw_m2 8 rfl) rfl
theorem q252 : (Jvm.Cond.classLink "DaryArrayHeap" (56 : Nat) "java/lang/Object") ∈ lw_all := lw_g (lw_at lw_m2 9 rfl) rfl
theorem q253 : (Jvm.Cond.methodLink "DaryArrayHeap" (35 : Nat) ({ cls := "java/lang/System", name := "arraycopy", desc := "(Ljava/lang/Object;ILjava/lang/Object;II)V" } : Jvm.MethodName)) ∈ lw_all := lw_g (lw_at lw_m2 10 rfl) rfl
theorem q259 : (Jvm.Cond.selects "DaryArrayHeap" ({ cls := "AbstractArrayHeap", name := "fixup", desc := "(I)V" } : Jvm.MethodName) ({ cls := "DaryArrayHeap", name := "fixup", desc := "(I)V" } : Jvm.MethodName)) ∈ lw_all := lw_g (lw_at lw_m2 16 rfl) rfl
theorem q260 : (Jvm.Cond.instanceMethod ({ cls := "DaryArrayHeap", name := "fixup", desc := "(I)V" } : Jvm.MethodName)) ∈ lw_all := lw_g (lw_at lw_m2 17 rfl) rfl
theorem q261 : (Jvm.Cond.code ({ cls := "DaryArrayHeap", name := "fixup", desc := "(I)V" } : Jvm.MethodName) prog_4_method_8_code (4 : Nat) (Option.none : Option Jvm.ClassFile.FieldType)) ∈ lw_all := lw_g (lw_at lw_m2 18 rfl) rfl
theorem q262 : (Jvm.Cond.classLink "DaryArrayHeap" (58 : Nat) "java/lang/Comparable") ∈ lw_all := lw_g (lw_at lw_m2 19 rfl) rfl
theorem q263 : (Jvm.Cond.methodLink "DaryArrayHeap" (60 : Nat) ({ cls := "DaryArrayHeapDesk", name := "order", desc := "(Ljava/lang/Object;Ljava/lang/Object;)I" } : Jvm.MethodName)) ∈ lw_all := lw_g (lw_at lw_m2 20 rfl) rfl
theorem q274 : (Jvm.Cond.selects "DaryArrayHeap" ({ cls := "AbstractArrayHeap", name := "fixupWithComparator", desc := "(I)V" } : Jvm.MethodName) ({ cls := "DaryArrayHeap", name := "fixupWithComparator", desc := "(I)V" } : Jvm.MethodName)) ∈ lw_all := lw_g (lw_at lw_m2 31 rfl) rfl
theorem q275 : (Jvm.Cond.instanceMethod ({ cls := "DaryArrayHeap", name := "fixupWithComparator", desc := "(I)V" } : Jvm.MethodName)) ∈ lw_all := lw_g (lw_at lw_m2 32 rfl) rfl
theorem q276 : (Jvm.Cond.code ({ cls := "DaryArrayHeap", name := "fixupWithComparator", desc := "(I)V" } : Jvm.MethodName) prog_4_method_9_code (4 : Nat) (Option.none : Option Jvm.ClassFile.FieldType)) ∈ lw_all := lw_g (lw_at lw_m2 33 rfl) rfl
theorem q277 : (Jvm.Cond.interfaceEntry "DaryArrayHeap" (70 : Nat)) ∈ lw_tbl := lw_at lw_m2 34 rfl
theorem q278 : (Jvm.Cond.methodLink "DaryArrayHeap" (70 : Nat) ({ cls := "java/util/Comparator", name := "compare", desc := "(Ljava/lang/Object;Ljava/lang/Object;)I" } : Jvm.MethodName)) ∈ lw_all := lw_g (lw_at lw_m2 35 rfl) rfl
theorem q299 : (Jvm.Cond.static ({ cls := "DaryArrayHeap", name := "heapify", desc := "(I[Ljava/lang/Object;)LDaryArrayHeap;" } : Jvm.MethodName)) ∈ lw_all := lw_g (lw_at lw_m2 56 rfl) rfl
theorem q300 : (Jvm.Cond.code ({ cls := "DaryArrayHeap", name := "heapify", desc := "(I[Ljava/lang/Object;)LDaryArrayHeap;" } : Jvm.MethodName) prog_4_method_5_code (4 : Nat) (Option.some (Jvm.ClassFile.FieldType.object "DaryArrayHeap"))) ∈ lw_all := lw_g (lw_at lw_m2 57 rfl) rfl
theorem q301 : (Jvm.Cond.stringRef "DaryArrayHeap" (23 : Nat) "Array cannot be null") ∈ lw_tbl := lw_at lw_m2 58 rfl
theorem q302 : (Jvm.Cond.classLink "DaryArrayHeap" (1 : Nat) "DaryArrayHeap") ∈ lw_all := lw_g (lw_at lw_m2 59 rfl) rfl
theorem q303 : (Jvm.Cond.methodLink "DaryArrayHeap" (25 : Nat) ({ cls := "DaryArrayHeap", name := "<init>", desc := "(I)V" } : Jvm.MethodName)) ∈ lw_all := lw_g (lw_at lw_m2 60 rfl) rfl
theorem q304 : (Jvm.Cond.methodLink "DaryArrayHeap" (28 : Nat) ({ cls := "DaryArrayHeap", name := "<init>", desc := "(II)V" } : Jvm.MethodName)) ∈ lw_all := lw_g (lw_at lw_m2 61 rfl) rfl
theorem q305 : (Jvm.Cond.instanceMethod ({ cls := "DaryArrayHeap", name := "<init>", desc := "(II)V" } : Jvm.MethodName)) ∈ lw_all := lw_g (lw_at lw_m2 62 rfl) rfl
theorem q306 : (Jvm.Cond.code ({ cls := "DaryArrayHeap", name := "<init>", desc := "(II)V" } : Jvm.MethodName) prog_4_method_2_code (3 : Nat) (Option.none : Option Jvm.ClassFile.FieldType)) ∈ lw_all := lw_g (lw_at lw_m2 63 rfl) rfl
theorem q307 : (Jvm.Cond.methodLink "DaryArrayHeap" (44 : Nat) ({ cls := "DaryArrayHeap", name := "fixdown", desc := "(I)V" } : Jvm.MethodName)) ∈ lw_all := lw_g (lw_at lw_m2 64 rfl) rfl
theorem q308 : (Jvm.Cond.instanceMethod ({ cls := "DaryArrayHeap", name := "fixdown", desc := "(I)V" } : Jvm.MethodName)) ∈ lw_all := lw_g (lw_at lw_m2 65 rfl) rfl
theorem q309 : (Jvm.Cond.selects "DaryArrayHeap" ({ cls := "DaryArrayHeap", name := "fixdown", desc := "(I)V" } : Jvm.MethodName) ({ cls := "DaryArrayHeap", name := "fixdown", desc := "(I)V" } : Jvm.MethodName)) ∈ lw_all := lw_g (lw_at lw_m2 66 rfl) rfl
theorem q310 : (Jvm.Cond.code ({ cls := "DaryArrayHeap", name := "fixdown", desc := "(I)V" } : Jvm.MethodName) prog_4_method_10_code (6 : Nat) (Option.none : Option Jvm.ClassFile.FieldType)) ∈ lw_all := lw_g (lw_at lw_m2 67 rfl) rfl
theorem q312 : (Jvm.Cond.static ({ cls := "DaryArrayHeap", name := "heapify", desc := "(I[Ljava/lang/Object;Ljava/util/Comparator;)LDaryArrayHeap;" } : Jvm.MethodName)) ∈ lw_all := lw_g (lw_at lw_m2 69 rfl) rfl
theorem q313 : (Jvm.Cond.code ({ cls := "DaryArrayHeap", name := "heapify", desc := "(I[Ljava/lang/Object;Ljava/util/Comparator;)LDaryArrayHeap;" } : Jvm.MethodName) prog_4_method_6_code (5 : Nat) (Option.some (Jvm.ClassFile.FieldType.object "DaryArrayHeap"))) ∈ lw_all := lw_g (lw_at lw_m2 70 rfl) rfl
theorem q314 : (Jvm.Cond.methodLink "DaryArrayHeap" (47 : Nat) ({ cls := "DaryArrayHeap", name := "<init>", desc := "(ILjava/util/Comparator;)V" } : Jvm.MethodName)) ∈ lw_all := lw_g (lw_at lw_m2 71 rfl) rfl
theorem q315 : (Jvm.Cond.methodLink "DaryArrayHeap" (50 : Nat) ({ cls := "DaryArrayHeap", name := "fixdownWithComparator", desc := "(I)V" } : Jvm.MethodName)) ∈ lw_all := lw_g (lw_at lw_m2 72 rfl) rfl
theorem q316 : (Jvm.Cond.instanceMethod ({ cls := "DaryArrayHeap", name := "fixdownWithComparator", desc := "(I)V" } : Jvm.MethodName)) ∈ lw_all := lw_g (lw_at lw_m2 73 rfl) rfl
theorem q317 : (Jvm.Cond.selects "DaryArrayHeap" ({ cls := "DaryArrayHeap", name := "fixdownWithComparator", desc := "(I)V" } : Jvm.MethodName) ({ cls := "DaryArrayHeap", name := "fixdownWithComparator", desc := "(I)V" } : Jvm.MethodName)) ∈ lw_all := lw_g (lw_at lw_m2 74 rfl) rfl
theorem q318 : (Jvm.Cond.code ({ cls := "DaryArrayHeap", name := "fixdownWithComparator", desc := "(I)V" } : Jvm.MethodName) prog_4_method_11_code (6 : Nat) (Option.none : Option Jvm.ClassFile.FieldType)) ∈ lw_all := lw_g (lw_at lw_m2 75 rfl) rfl
theorem q324 : (Jvm.Cond.sameMethod "DaryArrayHeap" "AbstractArrayWeakHeap" "isEmpty" "()Z") ∈ lw_all := lw_g (lw_at lw_m2 81 rfl) rfl
theorem q326 : (Jvm.Cond.selects "DaryArrayHeap" ({ cls := "DaryArrayHeap", name := "isEmpty", desc := "()Z" } : Jvm.MethodName) ({ cls := "AbstractArrayWeakHeap", name := "isEmpty", desc := "()Z" } : Jvm.MethodName)) ∈ lw_all := lw_g (lw_at lw_m2 83 rfl) rfl
theorem q330 : (Jvm.Cond.sameMethod "DaryArrayHeap" "AbstractArrayHeap" "findMin" "()Ljava/lang/Object;") ∈ lw_all := lw_g (lw_at lw_m2 87 rfl) rfl
theorem q332 : (Jvm.Cond.selects "DaryArrayHeap" ({ cls := "DaryArrayHeap", name := "findMin", desc := "()Ljava/lang/Object;" } : Jvm.MethodName) ({ cls := "AbstractArrayHeap", name := "findMin", desc := "()Ljava/lang/Object;" } : Jvm.MethodName)) ∈ lw_all := lw_g (lw_at lw_m2 89 rfl) rfl
theorem q361 : (Jvm.Cond.sameMethod "DaryArrayHeap" "AbstractArrayHeap" "deleteMin" "()Ljava/lang/Object;") ∈ lw_all := lw_g (lw_at lw_m2 118 rfl) rfl
theorem q363 : (Jvm.Cond.selects "DaryArrayHeap" ({ cls := "DaryArrayHeap", name := "deleteMin", desc := "()Ljava/lang/Object;" } : Jvm.MethodName) ({ cls := "AbstractArrayHeap", name := "deleteMin", desc := "()Ljava/lang/Object;" } : Jvm.MethodName)) ∈ lw_all := lw_g (lw_at lw_m2 120 rfl) rfl
theorem q369 : (Jvm.Cond.selects "DaryArrayHeap" ({ cls := "AbstractArrayHeap", name := "fixdown", desc := "(I)V" } : Jvm.MethodName) ({ cls := "DaryArrayHeap", name := "fixdown", desc := "(I)V" } : Jvm.MethodName)) ∈ lw_all := lw_g (lw_at lw_m2 126 rfl) rfl
theorem q373 : (Jvm.Cond.selects "DaryArrayHeap" ({ cls := "AbstractArrayHeap", name := "fixdownWithComparator", desc := "(I)V" } : Jvm.MethodName) ({ cls := "DaryArrayHeap", name := "fixdownWithComparator", desc := "(I)V" } : Jvm.MethodName)) ∈ lw_all := lw_g (lw_at lw_m2 130 rfl) rfl
theorem q379 : (Jvm.Cond.sameMethod "DaryArrayHeap" "AbstractArrayWeakHeap" "size" "()J") ∈ lw_all := lw_g (lw_at lw_m2 136 rfl) rfl
theorem q381 : (Jvm.Cond.selects "DaryArrayHeap" ({ cls := "DaryArrayHeap", name := "size", desc := "()J" } : Jvm.MethodName) ({ cls := "AbstractArrayWeakHeap", name := "size", desc := "()J" } : Jvm.MethodName)) ∈ lw_all := lw_g (lw_at lw_m2 138 rfl) rfl
theorem q393 : (Jvm.Cond.sameMethod "DaryArrayHeap" "AbstractArrayWeakHeap" "clear" "()V") ∈ lw_all := lw_g (lw_at lw_m2 150 rfl) rfl
theorem q395 : (Jvm.Cond.selects "DaryArrayHeap" ({ cls := "DaryArrayHeap", name := "clear", desc := "()V" } : Jvm.MethodName) ({ cls := "AbstractArrayWeakHeap", name := "clear", desc := "()V" } : Jvm.MethodName)) ∈ lw_all := lw_g (lw_at lw_m2 152 rfl) rfl
theorem q464 : (Jvm.Cond.castable "DaryArrayHeap" "java/lang/Object") ∈ lw_tbl := lw_at lw_m2 221 rfl
theorem in_X3 : ∀ w ∈ wsX30, w ∈ lw_all := lw_in wsX30 [172, 174, 176, 178, 170] (by decide +kernel) (by decide +kernel)
end
section
/-! DaryArrayHeapDeskModel -/
set_option maxRecDepth 100000
def RX4 : String := "DaryArrayHeapDeskModel"
def TX4 : u_T := fun k => match k with
  | 0 => ("DaryArrayHeapDeskModel", "keys", "[I", true)
  | 1 => ("DaryArrayHeapDeskModel", "home", "[I", true)
  | _ => ("DaryArrayHeapDeskModel", "puts", "I", false)
def tyX4 : Nat → FieldType := fun k => match k with
  | 0 => .array .int
  | 1 => .array .int
  | _ => .int
abbrev wsX40 : List Cond := u_ws RX4 TX4 3
theorem nmX4 : ∀ a, a < 3 → ∀ b, b < 3 → a ≠ b → (TX4 a).2.1 ≠ (TX4 b).2.1 := by decide +kernel
theorem tyX4_ok : ∀ k, k < 3 → parseFieldDescriptor (TX4 k).2.2.1 = some (tyX4 k) := by decide +kernel
abbrev cX4_init : ByteArray := prog_8_method_1_code
def yX4_init : MethodName := ⟨RX4, "<init>", "()V"⟩
def dkwX4_init_0 : List UInt8 := [42, 183, 0, 1, 42, 16, 64, 188, 10, 181, 0, 7, 42, 16, 64, 188, 10, 181, 0, 13, 177]
abbrev dktX4_init_0 : List UInt8 := dkwX4_init_0 ++ []
theorem dksX4_init_0 : cX4_init.data.toList.drop 0 = dktX4_init_0 := by decide +kernel
theorem dX4_init_0 : decode cX4_init 0 = .ok (.aload_n 0, 1) := dk_42 (dk_at dksX4_init_0 0 rfl rfl)
theorem dX4_init_1 : decode cX4_init 1 = .ok (.invokespecial 1, 3) := dk_183 0 1 (dk_at dksX4_init_0 1 rfl rfl)
theorem dX4_init_4 : decode cX4_init 4 = .ok (.aload_n 0, 1) := dk_42 (dk_at dksX4_init_0 4 rfl rfl)
theorem dX4_init_5 : decode cX4_init 5 = .ok (.bipush 64, 2) := dk_16 64 (dk_at dksX4_init_0 5 rfl rfl)
theorem dX4_init_7 : decode cX4_init 7 = .ok (.newarray .int, 2) := dk_188_10 (dk_at dksX4_init_0 7 rfl rfl)
theorem dX4_init_9 : decode cX4_init 9 = .ok (.putfield 7, 3) := dk_181 0 7 (dk_at dksX4_init_0 9 rfl rfl)
theorem dX4_init_12 : decode cX4_init 12 = .ok (.aload_n 0, 1) := dk_42 (dk_at dksX4_init_0 12 rfl rfl)
theorem dX4_init_13 : decode cX4_init 13 = .ok (.bipush 64, 2) := dk_16 64 (dk_at dksX4_init_0 13 rfl rfl)
theorem dX4_init_15 : decode cX4_init 15 = .ok (.newarray .int, 2) := dk_188_10 (dk_at dksX4_init_0 15 rfl rfl)
theorem dX4_init_17 : decode cX4_init 17 = .ok (.putfield 13, 3) := dk_181 0 13 (dk_at dksX4_init_0 17 rfl rfl)
theorem dX4_init_20 : decode cX4_init 20 = .ok (.return_, 1) := dk_177 (dk_at dksX4_init_0 20 rfl rfl)
abbrev cX4_put : ByteArray := prog_8_method_3_code
def yX4_put : MethodName := ⟨RX4, "put", "(II)Z"⟩
def dkwX4_put_2 : List UInt8 := [4, 172]
abbrev dktX4_put_2 : List UInt8 := dkwX4_put_2 ++ []
def dkwX4_put_1 : List UInt8 := [42, 180, 0, 13, 42, 180, 0, 16, 4, 27, 6, 126, 96, 79, 42, 42, 180, 0, 16, 4, 96, 181, 0, 16]
abbrev dktX4_put_1 : List UInt8 := dkwX4_put_1 ++ dktX4_put_2
def dkwX4_put_0 : List UInt8 := [42, 180, 0, 16, 16, 64, 160, 0, 5, 3, 172, 42, 180, 0, 7, 42, 180, 0, 16, 28, 18, 20, 126, 79]
abbrev dktX4_put_0 : List UInt8 := dkwX4_put_0 ++ dktX4_put_1
theorem dksX4_put_0 : cX4_put.data.toList.drop 0 = dktX4_put_0 := by decide +kernel
theorem dksX4_put_1 : cX4_put.data.toList.drop 24 = dktX4_put_1 := dk_seg dksX4_put_0 24 rfl rfl
theorem dksX4_put_2 : cX4_put.data.toList.drop 48 = dktX4_put_2 := dk_seg dksX4_put_1 24 rfl rfl
theorem dX4_put_0 : decode cX4_put 0 = .ok (.aload_n 0, 1) := dk_42 (dk_at dksX4_put_0 0 rfl rfl)
theorem dX4_put_1 : decode cX4_put 1 = .ok (.getfield 16, 3) := dk_180 0 16 (dk_at dksX4_put_0 1 rfl rfl)
theorem dX4_put_4 : decode cX4_put 4 = .ok (.bipush 64, 2) := dk_16 64 (dk_at dksX4_put_0 4 rfl rfl)
theorem dX4_put_6 : decode cX4_put 6 = .ok (.if_icmp .ne 5, 3) := dk_160 0 5 (dk_at dksX4_put_0 6 rfl rfl)
theorem dX4_put_9 : decode cX4_put 9 = .ok (.iconst 0, 1) := dk_3 (dk_at dksX4_put_0 9 rfl rfl)
theorem dX4_put_10 : decode cX4_put 10 = .ok (.ireturn, 1) := dk_172 (dk_at dksX4_put_0 10 rfl rfl)
theorem dX4_put_11 : decode cX4_put 11 = .ok (.aload_n 0, 1) := dk_42 (dk_at dksX4_put_0 11 rfl rfl)
theorem dX4_put_12 : decode cX4_put 12 = .ok (.getfield 7, 3) := dk_180 0 7 (dk_at dksX4_put_0 12 rfl rfl)
theorem dX4_put_15 : decode cX4_put 15 = .ok (.aload_n 0, 1) := dk_42 (dk_at dksX4_put_0 15 rfl rfl)
theorem dX4_put_16 : decode cX4_put 16 = .ok (.getfield 16, 3) := dk_180 0 16 (dk_at dksX4_put_0 16 rfl rfl)
theorem dX4_put_19 : decode cX4_put 19 = .ok (.iload_n 2, 1) := dk_28 (dk_at dksX4_put_0 19 rfl rfl)
theorem dX4_put_20 : decode cX4_put 20 = .ok (.ldc 20, 2) := dk_18 20 (dk_at dksX4_put_0 20 rfl rfl)
theorem dX4_put_22 : decode cX4_put 22 = .ok (.iand, 1) := dk_126 (dk_at dksX4_put_0 22 rfl rfl)
theorem dX4_put_23 : decode cX4_put 23 = .ok (.iastore, 1) := dk_79 (dk_at dksX4_put_0 23 rfl rfl)
theorem dX4_put_24 : decode cX4_put 24 = .ok (.aload_n 0, 1) := dk_42 (dk_at dksX4_put_1 0 rfl rfl)
theorem dX4_put_25 : decode cX4_put 25 = .ok (.getfield 13, 3) := dk_180 0 13 (dk_at dksX4_put_1 1 rfl rfl)
theorem dX4_put_28 : decode cX4_put 28 = .ok (.aload_n 0, 1) := dk_42 (dk_at dksX4_put_1 4 rfl rfl)
theorem dX4_put_29 : decode cX4_put 29 = .ok (.getfield 16, 3) := dk_180 0 16 (dk_at dksX4_put_1 5 rfl rfl)
theorem dX4_put_32 : decode cX4_put 32 = .ok (.iconst 1, 1) := dk_4 (dk_at dksX4_put_1 8 rfl rfl)
theorem dX4_put_33 : decode cX4_put 33 = .ok (.iload_n 1, 1) := dk_27 (dk_at dksX4_put_1 9 rfl rfl)
theorem dX4_put_34 : decode cX4_put 34 = .ok (.iconst 3, 1) := dk_6 (dk_at dksX4_put_1 10 rfl rfl)
theorem dX4_put_35 : decode cX4_put 35 = .ok (.iand, 1) := dk_126 (dk_at dksX4_put_1 11 rfl rfl)
theorem dX4_put_36 : decode cX4_put 36 = .ok (.iadd, 1) := dk_96 (dk_at dksX4_put_1 12 rfl rfl)
theorem dX4_put_37 : decode cX4_put 37 = .ok (.iastore, 1) := dk_79 (dk_at dksX4_put_1 13 rfl rfl)
theorem dX4_put_38 : decode cX4_put 38 = .ok (.aload_n 0, 1) := dk_42 (dk_at dksX4_put_1 14 rfl rfl)
theorem dX4_put_39 : decode cX4_put 39 = .ok (.aload_n 0, 1) := dk_42 (dk_at dksX4_put_1 15 rfl rfl)
theorem dX4_put_40 : decode cX4_put 40 = .ok (.getfield 16, 3) := dk_180 0 16 (dk_at dksX4_put_1 16 rfl rfl)
theorem dX4_put_43 : decode cX4_put 43 = .ok (.iconst 1, 1) := dk_4 (dk_at dksX4_put_1 19 rfl rfl)
theorem dX4_put_44 : decode cX4_put 44 = .ok (.iadd, 1) := dk_96 (dk_at dksX4_put_1 20 rfl rfl)
theorem dX4_put_45 : decode cX4_put 45 = .ok (.putfield 16, 3) := dk_181 0 16 (dk_at dksX4_put_1 21 rfl rfl)
theorem dX4_put_48 : decode cX4_put 48 = .ok (.iconst 1, 1) := dk_4 (dk_at dksX4_put_2 0 rfl rfl)
theorem dX4_put_49 : decode cX4_put 49 = .ok (.ireturn, 1) := dk_172 (dk_at dksX4_put_2 1 rfl rfl)
abbrev cX4_four : ByteArray := prog_8_method_4_code
def yX4_four : MethodName := ⟨RX4, "four", "(IIIII)Z"⟩
def dkwX4_four_2 : List UInt8 := [4, 172]
abbrev dktX4_four_2 : List UInt8 := dkwX4_four_2 ++ []
def dkwX4_four_1 : List UInt8 := [87, 42, 27, 29, 182, 0, 25, 87, 42, 27, 21, 4, 182, 0, 25, 87, 42, 27, 21, 5, 182, 0, 25, 87]
abbrev dktX4_four_1 : List UInt8 := dkwX4_four_1 ++ dktX4_four_2
def dkwX4_four_0 : List UInt8 := [42, 180, 0, 16, 7, 96, 16, 64, 164, 0, 5, 3, 172, 42, 27, 182, 0, 21, 42, 27, 28, 182, 0, 25]
abbrev dktX4_four_0 : List UInt8 := dkwX4_four_0 ++ dktX4_four_1
theorem dksX4_four_0 : cX4_four.data.toList.drop 0 = dktX4_four_0 := by decide +kernel
theorem dksX4_four_1 : cX4_four.data.toList.drop 24 = dktX4_four_1 := dk_seg dksX4_four_0 24 rfl rfl
theorem dksX4_four_2 : cX4_four.data.toList.drop 48 = dktX4_four_2 := dk_seg dksX4_four_1 24 rfl rfl
theorem dX4_four_0 : decode cX4_four 0 = .ok (.aload_n 0, 1) := dk_42 (dk_at dksX4_four_0 0 rfl rfl)
theorem dX4_four_1 : decode cX4_four 1 = .ok (.getfield 16, 3) := dk_180 0 16 (dk_at dksX4_four_0 1 rfl rfl)
theorem dX4_four_4 : decode cX4_four 4 = .ok (.iconst 4, 1) := dk_7 (dk_at dksX4_four_0 4 rfl rfl)
theorem dX4_four_5 : decode cX4_four 5 = .ok (.iadd, 1) := dk_96 (dk_at dksX4_four_0 5 rfl rfl)
theorem dX4_four_6 : decode cX4_four 6 = .ok (.bipush 64, 2) := dk_16 64 (dk_at dksX4_four_0 6 rfl rfl)
theorem dX4_four_8 : decode cX4_four 8 = .ok (.if_icmp .le 5, 3) := dk_164 0 5 (dk_at dksX4_four_0 8 rfl rfl)
theorem dX4_four_11 : decode cX4_four 11 = .ok (.iconst 0, 1) := dk_3 (dk_at dksX4_four_0 11 rfl rfl)
theorem dX4_four_12 : decode cX4_four 12 = .ok (.ireturn, 1) := dk_172 (dk_at dksX4_four_0 12 rfl rfl)
theorem dX4_four_13 : decode cX4_four 13 = .ok (.aload_n 0, 1) := dk_42 (dk_at dksX4_four_0 13 rfl rfl)
theorem dX4_four_14 : decode cX4_four 14 = .ok (.iload_n 1, 1) := dk_27 (dk_at dksX4_four_0 14 rfl rfl)
theorem dX4_four_15 : decode cX4_four 15 = .ok (.invokevirtual 21, 3) := dk_182 0 21 (dk_at dksX4_four_0 15 rfl rfl)
theorem dX4_four_18 : decode cX4_four 18 = .ok (.aload_n 0, 1) := dk_42 (dk_at dksX4_four_0 18 rfl rfl)
theorem dX4_four_19 : decode cX4_four 19 = .ok (.iload_n 1, 1) := dk_27 (dk_at dksX4_four_0 19 rfl rfl)
theorem dX4_four_20 : decode cX4_four 20 = .ok (.iload_n 2, 1) := dk_28 (dk_at dksX4_four_0 20 rfl rfl)
theorem dX4_four_21 : decode cX4_four 21 = .ok (.invokevirtual 25, 3) := dk_182 0 25 (dk_at dksX4_four_0 21 rfl rfl)
theorem dX4_four_24 : decode cX4_four 24 = .ok (.pop, 1) := dk_87 (dk_at dksX4_four_1 0 rfl rfl)
theorem dX4_four_25 : decode cX4_four 25 = .ok (.aload_n 0, 1) := dk_42 (dk_at dksX4_four_1 1 rfl rfl)
theorem dX4_four_26 : decode cX4_four 26 = .ok (.iload_n 1, 1) := dk_27 (dk_at dksX4_four_1 2 rfl rfl)
theorem dX4_four_27 : decode cX4_four 27 = .ok (.iload_n 3, 1) := dk_29 (dk_at dksX4_four_1 3 rfl rfl)
theorem dX4_four_28 : decode cX4_four 28 = .ok (.invokevirtual 25, 3) := dk_182 0 25 (dk_at dksX4_four_1 4 rfl rfl)
theorem dX4_four_31 : decode cX4_four 31 = .ok (.pop, 1) := dk_87 (dk_at dksX4_four_1 7 rfl rfl)
theorem dX4_four_32 : decode cX4_four 32 = .ok (.aload_n 0, 1) := dk_42 (dk_at dksX4_four_1 8 rfl rfl)
theorem dX4_four_33 : decode cX4_four 33 = .ok (.iload_n 1, 1) := dk_27 (dk_at dksX4_four_1 9 rfl rfl)
theorem dX4_four_34 : decode cX4_four 34 = .ok (.iload 4, 2) := dk_21 4 (dk_at dksX4_four_1 10 rfl rfl)
theorem dX4_four_36 : decode cX4_four 36 = .ok (.invokevirtual 25, 3) := dk_182 0 25 (dk_at dksX4_four_1 12 rfl rfl)
theorem dX4_four_39 : decode cX4_four 39 = .ok (.pop, 1) := dk_87 (dk_at dksX4_four_1 15 rfl rfl)
theorem dX4_four_40 : decode cX4_four 40 = .ok (.aload_n 0, 1) := dk_42 (dk_at dksX4_four_1 16 rfl rfl)
theorem dX4_four_41 : decode cX4_four 41 = .ok (.iload_n 1, 1) := dk_27 (dk_at dksX4_four_1 17 rfl rfl)
theorem dX4_four_42 : decode cX4_four 42 = .ok (.iload 5, 2) := dk_21 5 (dk_at dksX4_four_1 18 rfl rfl)
theorem dX4_four_44 : decode cX4_four 44 = .ok (.invokevirtual 25, 3) := dk_182 0 25 (dk_at dksX4_four_1 20 rfl rfl)
theorem dX4_four_47 : decode cX4_four 47 = .ok (.pop, 1) := dk_87 (dk_at dksX4_four_1 23 rfl rfl)
theorem dX4_four_48 : decode cX4_four 48 = .ok (.iconst 1, 1) := dk_4 (dk_at dksX4_four_2 0 rfl rfl)
theorem dX4_four_49 : decode cX4_four 49 = .ok (.ireturn, 1) := dk_172 (dk_at dksX4_four_2 1 rfl rfl)
abbrev cX4_clear : ByteArray := prog_8_method_9_code
def yX4_clear : MethodName := ⟨RX4, "clear", "(I)V"⟩
def dkwX4_clear_1 : List UInt8 := [42, 180, 0, 13, 28, 3, 79, 132, 2, 1, 167, 255, 224, 177]
abbrev dktX4_clear_1 : List UInt8 := dkwX4_clear_1 ++ []
def dkwX4_clear_0 : List UInt8 := [3, 61, 28, 42, 180, 0, 16, 162, 0, 30, 42, 180, 0, 13, 28, 46, 4, 27, 6, 126, 96, 160, 0, 10]
abbrev dktX4_clear_0 : List UInt8 := dkwX4_clear_0 ++ dktX4_clear_1
theorem dksX4_clear_0 : cX4_clear.data.toList.drop 0 = dktX4_clear_0 := by decide +kernel
theorem dksX4_clear_1 : cX4_clear.data.toList.drop 24 = dktX4_clear_1 := dk_seg dksX4_clear_0 24 rfl rfl
theorem dX4_clear_0 : decode cX4_clear 0 = .ok (.iconst 0, 1) := dk_3 (dk_at dksX4_clear_0 0 rfl rfl)
theorem dX4_clear_1 : decode cX4_clear 1 = .ok (.istore_n 2, 1) := dk_61 (dk_at dksX4_clear_0 1 rfl rfl)
theorem dX4_clear_2 : decode cX4_clear 2 = .ok (.iload_n 2, 1) := dk_28 (dk_at dksX4_clear_0 2 rfl rfl)
theorem dX4_clear_3 : decode cX4_clear 3 = .ok (.aload_n 0, 1) := dk_42 (dk_at dksX4_clear_0 3 rfl rfl)
theorem dX4_clear_4 : decode cX4_clear 4 = .ok (.getfield 16, 3) := dk_180 0 16 (dk_at dksX4_clear_0 4 rfl rfl)
theorem dX4_clear_7 : decode cX4_clear 7 = .ok (.if_icmp .ge 30, 3) := dk_162 0 30 (dk_at dksX4_clear_0 7 rfl rfl)
theorem dX4_clear_10 : decode cX4_clear 10 = .ok (.aload_n 0, 1) := dk_42 (dk_at dksX4_clear_0 10 rfl rfl)
theorem dX4_clear_11 : decode cX4_clear 11 = .ok (.getfield 13, 3) := dk_180 0 13 (dk_at dksX4_clear_0 11 rfl rfl)
theorem dX4_clear_14 : decode cX4_clear 14 = .ok (.iload_n 2, 1) := dk_28 (dk_at dksX4_clear_0 14 rfl rfl)
theorem dX4_clear_15 : decode cX4_clear 15 = .ok (.iaload, 1) := dk_46 (dk_at dksX4_clear_0 15 rfl rfl)
theorem dX4_clear_16 : decode cX4_clear 16 = .ok (.iconst 1, 1) := dk_4 (dk_at dksX4_clear_0 16 rfl rfl)
theorem dX4_clear_17 : decode cX4_clear 17 = .ok (.iload_n 1, 1) := dk_27 (dk_at dksX4_clear_0 17 rfl rfl)
theorem dX4_clear_18 : decode cX4_clear 18 = .ok (.iconst 3, 1) := dk_6 (dk_at dksX4_clear_0 18 rfl rfl)
theorem dX4_clear_19 : decode cX4_clear 19 = .ok (.iand, 1) := dk_126 (dk_at dksX4_clear_0 19 rfl rfl)
theorem dX4_clear_20 : decode cX4_clear 20 = .ok (.iadd, 1) := dk_96 (dk_at dksX4_clear_0 20 rfl rfl)
theorem dX4_clear_21 : decode cX4_clear 21 = .ok (.if_icmp .ne 10, 3) := dk_160 0 10 (dk_at dksX4_clear_0 21 rfl rfl)
theorem dX4_clear_24 : decode cX4_clear 24 = .ok (.aload_n 0, 1) := dk_42 (dk_at dksX4_clear_1 0 rfl rfl)
theorem dX4_clear_25 : decode cX4_clear 25 = .ok (.getfield 13, 3) := dk_180 0 13 (dk_at dksX4_clear_1 1 rfl rfl)
theorem dX4_clear_28 : decode cX4_clear 28 = .ok (.iload_n 2, 1) := dk_28 (dk_at dksX4_clear_1 4 rfl rfl)
theorem dX4_clear_29 : decode cX4_clear 29 = .ok (.iconst 0, 1) := dk_3 (dk_at dksX4_clear_1 5 rfl rfl)
theorem dX4_clear_30 : decode cX4_clear 30 = .ok (.iastore, 1) := dk_79 (dk_at dksX4_clear_1 6 rfl rfl)
theorem dX4_clear_31 : decode cX4_clear 31 = .ok (.iinc 2 1, 3) := dk_132 2 1 (dk_at dksX4_clear_1 7 rfl rfl)
theorem dX4_clear_34 : decode cX4_clear 34 = .ok (.goto (-32), 3) := dk_167 255 224 (dk_at dksX4_clear_1 10 rfl rfl)
theorem dX4_clear_37 : decode cX4_clear 37 = .ok (.return_, 1) := dk_177 (dk_at dksX4_clear_1 13 rfl rfl)
abbrev cX4_least : ByteArray := prog_8_method_5_code
def yX4_least : MethodName := ⟨RX4, "least", "(I)I"⟩
def dkwX4_least_0 : List UInt8 := [42, 27, 182, 0, 29, 61, 28, 156, 0, 7, 2, 167, 0, 9, 42, 180, 0, 7, 28, 46, 172]
abbrev dktX4_least_0 : List UInt8 := dkwX4_least_0 ++ []
theorem dksX4_least_0 : cX4_least.data.toList.drop 0 = dktX4_least_0 := by decide +kernel
theorem dX4_least_0 : decode cX4_least 0 = .ok (.aload_n 0, 1) := dk_42 (dk_at dksX4_least_0 0 rfl rfl)
theorem dX4_least_1 : decode cX4_least 1 = .ok (.iload_n 1, 1) := dk_27 (dk_at dksX4_least_0 1 rfl rfl)
theorem dX4_least_2 : decode cX4_least 2 = .ok (.invokevirtual 29, 3) := dk_182 0 29 (dk_at dksX4_least_0 2 rfl rfl)
theorem dX4_least_5 : decode cX4_least 5 = .ok (.istore_n 2, 1) := dk_61 (dk_at dksX4_least_0 5 rfl rfl)
theorem dX4_least_6 : decode cX4_least 6 = .ok (.iload_n 2, 1) := dk_28 (dk_at dksX4_least_0 6 rfl rfl)
theorem dX4_least_7 : decode cX4_least 7 = .ok (.ifCond .ge 7, 3) := dk_156 0 7 (dk_at dksX4_least_0 7 rfl rfl)
theorem dX4_least_10 : decode cX4_least 10 = .ok (.iconst (-1), 1) := dk_2 (dk_at dksX4_least_0 10 rfl rfl)
theorem dX4_least_11 : decode cX4_least 11 = .ok (.goto 9, 3) := dk_167 0 9 (dk_at dksX4_least_0 11 rfl rfl)
theorem dX4_least_14 : decode cX4_least 14 = .ok (.aload_n 0, 1) := dk_42 (dk_at dksX4_least_0 14 rfl rfl)
theorem dX4_least_15 : decode cX4_least 15 = .ok (.getfield 7, 3) := dk_180 0 7 (dk_at dksX4_least_0 15 rfl rfl)
theorem dX4_least_18 : decode cX4_least 18 = .ok (.iload_n 2, 1) := dk_28 (dk_at dksX4_least_0 18 rfl rfl)
theorem dX4_least_19 : decode cX4_least 19 = .ok (.iaload, 1) := dk_46 (dk_at dksX4_least_0 19 rfl rfl)
theorem dX4_least_20 : decode cX4_least 20 = .ok (.ireturn, 1) := dk_172 (dk_at dksX4_least_0 20 rfl rfl)
abbrev cX4_first : ByteArray := prog_8_method_2_code
def yX4_first : MethodName := ⟨RX4, "first", "(I)I"⟩
def dkwX4_first_3 : List UInt8 := [61, 132, 3, 1, 167, 255, 185, 28, 172]
abbrev dktX4_first_3 : List UInt8 := dkwX4_first_3 ++ []
def dkwX4_first_2 : List UInt8 := [28, 46, 162, 0, 23, 167, 0, 18, 42, 180, 0, 7, 29, 46, 42, 180, 0, 7, 28, 46, 164, 0, 5, 29]
abbrev dktX4_first_2 : List UInt8 := dkwX4_first_2 ++ dktX4_first_3
def dkwX4_first_1 : List UInt8 := [160, 0, 49, 28, 155, 0, 43, 27, 6, 126, 5, 162, 0, 21, 42, 180, 0, 7, 29, 46, 42, 180, 0, 7]
abbrev dktX4_first_1 : List UInt8 := dkwX4_first_1 ++ dktX4_first_2
def dkwX4_first_0 : List UInt8 := [2, 61, 3, 62, 29, 42, 180, 0, 16, 162, 0, 69, 42, 180, 0, 13, 29, 46, 4, 27, 6, 126, 96]
abbrev dktX4_first_0 : List UInt8 := dkwX4_first_0 ++ dktX4_first_1
theorem dksX4_first_0 : cX4_first.data.toList.drop 0 = dktX4_first_0 := by decide +kernel
theorem dksX4_first_1 : cX4_first.data.toList.drop 23 = dktX4_first_1 := dk_seg dksX4_first_0 23 rfl rfl
theorem dksX4_first_2 : cX4_first.data.toList.drop 47 = dktX4_first_2 := dk_seg dksX4_first_1 24 rfl rfl
theorem dksX4_first_3 : cX4_first.data.toList.drop 71 = dktX4_first_3 := dk_seg dksX4_first_2 24 rfl rfl
theorem dX4_first_0 : decode cX4_first 0 = .ok (.iconst (-1), 1) := dk_2 (dk_at dksX4_first_0 0 rfl rfl)
theorem dX4_first_1 : decode cX4_first 1 = .ok (.istore_n 2, 1) := dk_61 (dk_at dksX4_first_0 1 rfl rfl)
theorem dX4_first_2 : decode cX4_first 2 = .ok (.iconst 0, 1) := dk_3 (dk_at dksX4_first_0 2 rfl rfl)
theorem dX4_first_3 : decode cX4_first 3 = .ok (.istore_n 3, 1) := dk_62 (dk_at dksX4_first_0 3 rfl rfl)
theorem dX4_first_4 : decode cX4_first 4 = .ok (.iload_n 3, 1) := dk_29 (dk_at dksX4_first_0 4 rfl rfl)
theorem dX4_first_5 : decode cX4_first 5 = .ok (.aload_n 0, 1) := dk_42 (dk_at dksX4_first_0 5 rfl rfl)
theorem dX4_first_6 : decode cX4_first 6 = .ok (.getfield 16, 3) := dk_180 0 16 (dk_at dksX4_first_0 6 rfl rfl)
theorem dX4_first_9 : decode cX4_first 9 = .ok (.if_icmp .ge 69, 3) := dk_162 0 69 (dk_at dksX4_first_0 9 rfl rfl)
theorem dX4_first_12 : decode cX4_first 12 = .ok (.aload_n 0, 1) := dk_42 (dk_at dksX4_first_0 12 rfl rfl)
theorem dX4_first_13 : decode cX4_first 13 = .ok (.getfield 13, 3) := dk_180 0 13 (dk_at dksX4_first_0 13 rfl rfl)
theorem dX4_first_16 : decode cX4_first 16 = .ok (.iload_n 3, 1) := dk_29 (dk_at dksX4_first_0 16 rfl rfl)
theorem dX4_first_17 : decode cX4_first 17 = .ok (.iaload, 1) := dk_46 (dk_at dksX4_first_0 17 rfl rfl)
theorem dX4_first_18 : decode cX4_first 18 = .ok (.iconst 1, 1) := dk_4 (dk_at dksX4_first_0 18 rfl rfl)
theorem dX4_first_19 : decode cX4_first 19 = .ok (.iload_n 1, 1) := dk_27 (dk_at dksX4_first_0 19 rfl rfl)
theorem dX4_first_20 : decode cX4_first 20 = .ok (.iconst 3, 1) := dk_6 (dk_at dksX4_first_0 20 rfl rfl)
theorem dX4_first_21 : decode cX4_first 21 = .ok (.iand, 1) := dk_126 (dk_at dksX4_first_0 21 rfl rfl)
theorem dX4_first_22 : decode cX4_first 22 = .ok (.iadd, 1) := dk_96 (dk_at dksX4_first_0 22 rfl rfl)
theorem dX4_first_23 : decode cX4_first 23 = .ok (.if_icmp .ne 49, 3) := dk_160 0 49 (dk_at dksX4_first_1 0 rfl rfl)
theorem dX4_first_26 : decode cX4_first 26 = .ok (.iload_n 2, 1) := dk_28 (dk_at dksX4_first_1 3 rfl rfl)
theorem dX4_first_27 : decode cX4_first 27 = .ok (.ifCond .lt 43, 3) := dk_155 0 43 (dk_at dksX4_first_1 4 rfl rfl)
theorem dX4_first_30 : decode cX4_first 30 = .ok (.iload_n 1, 1) := dk_27 (dk_at dksX4_first_1 7 rfl rfl)
theorem dX4_first_31 : decode cX4_first 31 = .ok (.iconst 3, 1) := dk_6 (dk_at dksX4_first_1 8 rfl rfl)
theorem dX4_first_32 : decode cX4_first 32 = .ok (.iand, 1) := dk_126 (dk_at dksX4_first_1 9 rfl rfl)
theorem dX4_first_33 : decode cX4_first 33 = .ok (.iconst 2, 1) := dk_5 (dk_at dksX4_first_1 10 rfl rfl)
theorem dX4_first_34 : decode cX4_first 34 = .ok (.if_icmp .ge 21, 3) := dk_162 0 21 (dk_at dksX4_first_1 11 rfl rfl)
theorem dX4_first_37 : decode cX4_first 37 = .ok (.aload_n 0, 1) := dk_42 (dk_at dksX4_first_1 14 rfl rfl)
theorem dX4_first_38 : decode cX4_first 38 = .ok (.getfield 7, 3) := dk_180 0 7 (dk_at dksX4_first_1 15 rfl rfl)
theorem dX4_first_41 : decode cX4_first 41 = .ok (.iload_n 3, 1) := dk_29 (dk_at dksX4_first_1 18 rfl rfl)
theorem dX4_first_42 : decode cX4_first 42 = .ok (.iaload, 1) := dk_46 (dk_at dksX4_first_1 19 rfl rfl)
theorem dX4_first_43 : decode cX4_first 43 = .ok (.aload_n 0, 1) := dk_42 (dk_at dksX4_first_1 20 rfl rfl)
theorem dX4_first_44 : decode cX4_first 44 = .ok (.getfield 7, 3) := dk_180 0 7 (dk_at dksX4_first_1 21 rfl rfl)
theorem dX4_first_47 : decode cX4_first 47 = .ok (.iload_n 2, 1) := dk_28 (dk_at dksX4_first_2 0 rfl rfl)
theorem dX4_first_48 : decode cX4_first 48 = .ok (.iaload, 1) := dk_46 (dk_at dksX4_first_2 1 rfl rfl)
theorem dX4_first_49 : decode cX4_first 49 = .ok (.if_icmp .ge 23, 3) := dk_162 0 23 (dk_at dksX4_first_2 2 rfl rfl)
theorem dX4_first_52 : decode cX4_first 52 = .ok (.goto 18, 3) := dk_167 0 18 (dk_at dksX4_first_2 5 rfl rfl)
theorem dX4_first_55 : decode cX4_first 55 = .ok (.aload_n 0, 1) := dk_42 (dk_at dksX4_first_2 8 rfl rfl)
theorem dX4_first_56 : decode cX4_first 56 = .ok (.getfield 7, 3) := dk_180 0 7 (dk_at dksX4_first_2 9 rfl rfl)
theorem dX4_first_59 : decode cX4_first 59 = .ok (.iload_n 3, 1) := dk_29 (dk_at dksX4_first_2 12 rfl rfl)
theorem dX4_first_60 : decode cX4_first 60 = .ok (.iaload, 1) := dk_46 (dk_at dksX4_first_2 13 rfl rfl)
theorem dX4_first_61 : decode cX4_first 61 = .ok (.aload_n 0, 1) := dk_42 (dk_at dksX4_first_2 14 rfl rfl)
theorem dX4_first_62 : decode cX4_first 62 = .ok (.getfield 7, 3) := dk_180 0 7 (dk_at dksX4_first_2 15 rfl rfl)
theorem dX4_first_65 : decode cX4_first 65 = .ok (.iload_n 2, 1) := dk_28 (dk_at dksX4_first_2 18 rfl rfl)
theorem dX4_first_66 : decode cX4_first 66 = .ok (.iaload, 1) := dk_46 (dk_at dksX4_first_2 19 rfl rfl)
theorem dX4_first_67 : decode cX4_first 67 = .ok (.if_icmp .le 5, 3) := dk_164 0 5 (dk_at dksX4_first_2 20 rfl rfl)
theorem dX4_first_70 : decode cX4_first 70 = .ok (.iload_n 3, 1) := dk_29 (dk_at dksX4_first_2 23 rfl rfl)
theorem dX4_first_71 : decode cX4_first 71 = .ok (.istore_n 2, 1) := dk_61 (dk_at dksX4_first_3 0 rfl rfl)
theorem dX4_first_72 : decode cX4_first 72 = .ok (.iinc 3 1, 3) := dk_132 3 1 (dk_at dksX4_first_3 1 rfl rfl)
theorem dX4_first_75 : decode cX4_first 75 = .ok (.goto (-71), 3) := dk_167 255 185 (dk_at dksX4_first_3 4 rfl rfl)
theorem dX4_first_78 : decode cX4_first 78 = .ok (.iload_n 2, 1) := dk_28 (dk_at dksX4_first_3 7 rfl rfl)
theorem dX4_first_79 : decode cX4_first 79 = .ok (.ireturn, 1) := dk_172 (dk_at dksX4_first_3 8 rfl rfl)
abbrev cX4_takeLeast : ByteArray := prog_8_method_6_code
def yX4_takeLeast : MethodName := ⟨RX4, "takeLeast", "(I)I"⟩
def dkwX4_takeLeast_1 : List UInt8 := [46, 172]
abbrev dktX4_takeLeast_1 : List UInt8 := dkwX4_takeLeast_1 ++ []
def dkwX4_takeLeast_0 : List UInt8 := [42, 27, 182, 0, 29, 61, 28, 156, 0, 5, 2, 172, 42, 180, 0, 13, 28, 3, 79, 42, 180, 0, 7, 28]
abbrev dktX4_takeLeast_0 : List UInt8 := dkwX4_takeLeast_0 ++ dktX4_takeLeast_1
theorem dksX4_takeLeast_0 : cX4_takeLeast.data.toList.drop 0 = dktX4_takeLeast_0 := by decide +kernel
theorem dksX4_takeLeast_1 : cX4_takeLeast.data.toList.drop 24 = dktX4_takeLeast_1 := dk_seg dksX4_takeLeast_0 24 rfl rfl
theorem dX4_takeLeast_0 : decode cX4_takeLeast 0 = .ok (.aload_n 0, 1) := dk_42 (dk_at dksX4_takeLeast_0 0 rfl rfl)
theorem dX4_takeLeast_1 : decode cX4_takeLeast 1 = .ok (.iload_n 1, 1) := dk_27 (dk_at dksX4_takeLeast_0 1 rfl rfl)
theorem dX4_takeLeast_2 : decode cX4_takeLeast 2 = .ok (.invokevirtual 29, 3) := dk_182 0 29 (dk_at dksX4_takeLeast_0 2 rfl rfl)
theorem dX4_takeLeast_5 : decode cX4_takeLeast 5 = .ok (.istore_n 2, 1) := dk_61 (dk_at dksX4_takeLeast_0 5 rfl rfl)
theorem dX4_takeLeast_6 : decode cX4_takeLeast 6 = .ok (.iload_n 2, 1) := dk_28 (dk_at dksX4_takeLeast_0 6 rfl rfl)
theorem dX4_takeLeast_7 : decode cX4_takeLeast 7 = .ok (.ifCond .ge 5, 3) := dk_156 0 5 (dk_at dksX4_takeLeast_0 7 rfl rfl)
theorem dX4_takeLeast_10 : decode cX4_takeLeast 10 = .ok (.iconst (-1), 1) := dk_2 (dk_at dksX4_takeLeast_0 10 rfl rfl)
theorem dX4_takeLeast_11 : decode cX4_takeLeast 11 = .ok (.ireturn, 1) := dk_172 (dk_at dksX4_takeLeast_0 11 rfl rfl)
theorem dX4_takeLeast_12 : decode cX4_takeLeast 12 = .ok (.aload_n 0, 1) := dk_42 (dk_at dksX4_takeLeast_0 12 rfl rfl)
theorem dX4_takeLeast_13 : decode cX4_takeLeast 13 = .ok (.getfield 13, 3) := dk_180 0 13 (dk_at dksX4_takeLeast_0 13 rfl rfl)
theorem dX4_takeLeast_16 : decode cX4_takeLeast 16 = .ok (.iload_n 2, 1) := dk_28 (dk_at dksX4_takeLeast_0 16 rfl rfl)
theorem dX4_takeLeast_17 : decode cX4_takeLeast 17 = .ok (.iconst 0, 1) := dk_3 (dk_at dksX4_takeLeast_0 17 rfl rfl)
theorem dX4_takeLeast_18 : decode cX4_takeLeast 18 = .ok (.iastore, 1) := dk_79 (dk_at dksX4_takeLeast_0 18 rfl rfl)
theorem dX4_takeLeast_19 : decode cX4_takeLeast 19 = .ok (.aload_n 0, 1) := dk_42 (dk_at dksX4_takeLeast_0 19 rfl rfl)
theorem dX4_takeLeast_20 : decode cX4_takeLeast 20 = .ok (.getfield 7, 3) := dk_180 0 7 (dk_at dksX4_takeLeast_0 20 rfl rfl)
theorem dX4_takeLeast_23 : decode cX4_takeLeast 23 = .ok (.iload_n 2, 1) := dk_28 (dk_at dksX4_takeLeast_0 23 rfl rfl)
theorem dX4_takeLeast_24 : decode cX4_takeLeast 24 = .ok (.iaload, 1) := dk_46 (dk_at dksX4_takeLeast_1 0 rfl rfl)
theorem dX4_takeLeast_25 : decode cX4_takeLeast 25 = .ok (.ireturn, 1) := dk_172 (dk_at dksX4_takeLeast_1 1 rfl rfl)
abbrev cX4_size : ByteArray := prog_8_method_7_code
def yX4_size : MethodName := ⟨RX4, "size", "(I)I"⟩
def dkwX4_size_1 : List UInt8 := [160, 0, 7, 4, 167, 0, 4, 3, 96, 61, 132, 3, 1, 167, 255, 223, 28, 172]
abbrev dktX4_size_1 : List UInt8 := dkwX4_size_1 ++ []
def dkwX4_size_0 : List UInt8 := [3, 61, 3, 62, 29, 42, 180, 0, 16, 162, 0, 31, 28, 42, 180, 0, 13, 29, 46, 4, 27, 6, 126, 96]
abbrev dktX4_size_0 : List UInt8 := dkwX4_size_0 ++ dktX4_size_1
theorem dksX4_size_0 : cX4_size.data.toList.drop 0 = dktX4_size_0 := by decide +kernel
theorem dksX4_size_1 : cX4_size.data.toList.drop 24 = dktX4_size_1 := dk_seg dksX4_size_0 24 rfl rfl
theorem dX4_size_0 : decode cX4_size 0 = .ok (.iconst 0, 1) := dk_3 (dk_at dksX4_size_0 0 rfl rfl)
theorem dX4_size_1 : decode cX4_size 1 = .ok (.istore_n 2, 1) := dk_61 (dk_at dksX4_size_0 1 rfl rfl)
theorem dX4_size_2 : decode cX4_size 2 = .ok (.iconst 0, 1) := dk_3 (dk_at dksX4_size_0 2 rfl rfl)
theorem dX4_size_3 : decode cX4_size 3 = .ok (.istore_n 3, 1) := dk_62 (dk_at dksX4_size_0 3 rfl rfl)
theorem dX4_size_4 : decode cX4_size 4 = .ok (.iload_n 3, 1) := dk_29 (dk_at dksX4_size_0 4 rfl rfl)
theorem dX4_size_5 : decode cX4_size 5 = .ok (.aload_n 0, 1) := dk_42 (dk_at dksX4_size_0 5 rfl rfl)
theorem dX4_size_6 : decode cX4_size 6 = .ok (.getfield 16, 3) := dk_180 0 16 (dk_at dksX4_size_0 6 rfl rfl)
theorem dX4_size_9 : decode cX4_size 9 = .ok (.if_icmp .ge 31, 3) := dk_162 0 31 (dk_at dksX4_size_0 9 rfl rfl)
theorem dX4_size_12 : decode cX4_size 12 = .ok (.iload_n 2, 1) := dk_28 (dk_at dksX4_size_0 12 rfl rfl)
theorem dX4_size_13 : decode cX4_size 13 = .ok (.aload_n 0, 1) := dk_42 (dk_at dksX4_size_0 13 rfl rfl)
theorem dX4_size_14 : decode cX4_size 14 = .ok (.getfield 13, 3) := dk_180 0 13 (dk_at dksX4_size_0 14 rfl rfl)
theorem dX4_size_17 : decode cX4_size 17 = .ok (.iload_n 3, 1) := dk_29 (dk_at dksX4_size_0 17 rfl rfl)
theorem dX4_size_18 : decode cX4_size 18 = .ok (.iaload, 1) := dk_46 (dk_at dksX4_size_0 18 rfl rfl)
theorem dX4_size_19 : decode cX4_size 19 = .ok (.iconst 1, 1) := dk_4 (dk_at dksX4_size_0 19 rfl rfl)
theorem dX4_size_20 : decode cX4_size 20 = .ok (.iload_n 1, 1) := dk_27 (dk_at dksX4_size_0 20 rfl rfl)
theorem dX4_size_21 : decode cX4_size 21 = .ok (.iconst 3, 1) := dk_6 (dk_at dksX4_size_0 21 rfl rfl)
theorem dX4_size_22 : decode cX4_size 22 = .ok (.iand, 1) := dk_126 (dk_at dksX4_size_0 22 rfl rfl)
theorem dX4_size_23 : decode cX4_size 23 = .ok (.iadd, 1) := dk_96 (dk_at dksX4_size_0 23 rfl rfl)
theorem dX4_size_24 : decode cX4_size 24 = .ok (.if_icmp .ne 7, 3) := dk_160 0 7 (dk_at dksX4_size_1 0 rfl rfl)
theorem dX4_size_27 : decode cX4_size 27 = .ok (.iconst 1, 1) := dk_4 (dk_at dksX4_size_1 3 rfl rfl)
theorem dX4_size_28 : decode cX4_size 28 = .ok (.goto 4, 3) := dk_167 0 4 (dk_at dksX4_size_1 4 rfl rfl)
theorem dX4_size_31 : decode cX4_size 31 = .ok (.iconst 0, 1) := dk_3 (dk_at dksX4_size_1 7 rfl rfl)
theorem dX4_size_32 : decode cX4_size 32 = .ok (.iadd, 1) := dk_96 (dk_at dksX4_size_1 8 rfl rfl)
theorem dX4_size_33 : decode cX4_size 33 = .ok (.istore_n 2, 1) := dk_61 (dk_at dksX4_size_1 9 rfl rfl)
theorem dX4_size_34 : decode cX4_size 34 = .ok (.iinc 3 1, 3) := dk_132 3 1 (dk_at dksX4_size_1 10 rfl rfl)
theorem dX4_size_37 : decode cX4_size 37 = .ok (.goto (-33), 3) := dk_167 255 223 (dk_at dksX4_size_1 13 rfl rfl)
theorem dX4_size_40 : decode cX4_size 40 = .ok (.iload_n 2, 1) := dk_28 (dk_at dksX4_size_1 16 rfl rfl)
theorem dX4_size_41 : decode cX4_size 41 = .ok (.ireturn, 1) := dk_172 (dk_at dksX4_size_1 17 rfl rfl)
abbrev cX4_isEmpty : ByteArray := prog_8_method_8_code
def yX4_isEmpty : MethodName := ⟨RX4, "isEmpty", "(I)Z"⟩
def dkwX4_isEmpty_0 : List UInt8 := [42, 27, 182, 0, 33, 154, 0, 7, 4, 167, 0, 4, 3, 172]
abbrev dktX4_isEmpty_0 : List UInt8 := dkwX4_isEmpty_0 ++ []
theorem dksX4_isEmpty_0 : cX4_isEmpty.data.toList.drop 0 = dktX4_isEmpty_0 := by decide +kernel
theorem dX4_isEmpty_0 : decode cX4_isEmpty 0 = .ok (.aload_n 0, 1) := dk_42 (dk_at dksX4_isEmpty_0 0 rfl rfl)
theorem dX4_isEmpty_1 : decode cX4_isEmpty 1 = .ok (.iload_n 1, 1) := dk_27 (dk_at dksX4_isEmpty_0 1 rfl rfl)
theorem dX4_isEmpty_2 : decode cX4_isEmpty 2 = .ok (.invokevirtual 33, 3) := dk_182 0 33 (dk_at dksX4_isEmpty_0 2 rfl rfl)
theorem dX4_isEmpty_5 : decode cX4_isEmpty 5 = .ok (.ifCond .ne 7, 3) := dk_154 0 7 (dk_at dksX4_isEmpty_0 5 rfl rfl)
theorem dX4_isEmpty_8 : decode cX4_isEmpty 8 = .ok (.iconst 1, 1) := dk_4 (dk_at dksX4_isEmpty_0 8 rfl rfl)
theorem dX4_isEmpty_9 : decode cX4_isEmpty 9 = .ok (.goto 4, 3) := dk_167 0 4 (dk_at dksX4_isEmpty_0 9 rfl rfl)
theorem dX4_isEmpty_12 : decode cX4_isEmpty 12 = .ok (.iconst 0, 1) := dk_3 (dk_at dksX4_isEmpty_0 12 rfl rfl)
theorem dX4_isEmpty_13 : decode cX4_isEmpty 13 = .ok (.ireturn, 1) := dk_172 (dk_at dksX4_isEmpty_0 13 rfl rfl)
abbrev cX4_pour : ByteArray := prog_8_method_10_code
def yX4_pour : MethodName := ⟨RX4, "pour", "(II)I"⟩
def dkwX4_pour_2 : List UInt8 := [4, 27, 6, 126, 96, 79, 29, 4, 96, 62, 132, 4, 1, 167, 255, 213, 29, 172]
abbrev dktX4_pour_2 : List UInt8 := dkwX4_pour_2 ++ []
def dkwX4_pour_1 : List UInt8 := [162, 0, 40, 42, 180, 0, 13, 21, 4, 46, 4, 28, 6, 126, 96, 160, 0, 19, 42, 180, 0, 13, 21, 4]
abbrev dktX4_pour_1 : List UInt8 := dkwX4_pour_1 ++ dktX4_pour_2
def dkwX4_pour_0 : List UInt8 := [27, 6, 126, 28, 6, 126, 160, 0, 5, 2, 172, 3, 62, 3, 54, 4, 21, 4, 42, 180, 0, 16]
abbrev dktX4_pour_0 : List UInt8 := dkwX4_pour_0 ++ dktX4_pour_1
theorem dksX4_pour_0 : cX4_pour.data.toList.drop 0 = dktX4_pour_0 := by decide +kernel
theorem dksX4_pour_1 : cX4_pour.data.toList.drop 22 = dktX4_pour_1 := dk_seg dksX4_pour_0 22 rfl rfl
theorem dksX4_pour_2 : cX4_pour.data.toList.drop 46 = dktX4_pour_2 := dk_seg dksX4_pour_1 24 rfl rfl
theorem dX4_pour_0 : decode cX4_pour 0 = .ok (.iload_n 1, 1) := dk_27 (dk_at dksX4_pour_0 0 rfl rfl)
theorem dX4_pour_1 : decode cX4_pour 1 = .ok (.iconst 3, 1) := dk_6 (dk_at dksX4_pour_0 1 rfl rfl)
theorem dX4_pour_2 : decode cX4_pour 2 = .ok (.iand, 1) := dk_126 (dk_at dksX4_pour_0 2 rfl rfl)
theorem dX4_pour_3 : decode cX4_pour 3 = .ok (.iload_n 2, 1) := dk_28 (dk_at dksX4_pour_0 3 rfl rfl)
theorem dX4_pour_4 : decode cX4_pour 4 = .ok (.iconst 3, 1) := dk_6 (dk_at dksX4_pour_0 4 rfl rfl)
theorem dX4_pour_5 : decode cX4_pour 5 = .ok (.iand, 1) := dk_126 (dk_at dksX4_pour_0 5 rfl rfl)
theorem dX4_pour_6 : decode cX4_pour 6 = .ok (.if_icmp .ne 5, 3) := dk_160 0 5 (dk_at dksX4_pour_0 6 rfl rfl)
theorem dX4_pour_9 : decode cX4_pour 9 = .ok (.iconst (-1), 1) := dk_2 (dk_at dksX4_pour_0 9 rfl rfl)
theorem dX4_pour_10 : decode cX4_pour 10 = .ok (.ireturn, 1) := dk_172 (dk_at dksX4_pour_0 10 rfl rfl)
theorem dX4_pour_11 : decode cX4_pour 11 = .ok (.iconst 0, 1) := dk_3 (dk_at dksX4_pour_0 11 rfl rfl)
theorem dX4_pour_12 : decode cX4_pour 12 = .ok (.istore_n 3, 1) := dk_62 (dk_at dksX4_pour_0 12 rfl rfl)
theorem dX4_pour_13 : decode cX4_pour 13 = .ok (.iconst 0, 1) := dk_3 (dk_at dksX4_pour_0 13 rfl rfl)
theorem dX4_pour_14 : decode cX4_pour 14 = .ok (.istore 4, 2) := dk_54 4 (dk_at dksX4_pour_0 14 rfl rfl)
theorem dX4_pour_16 : decode cX4_pour 16 = .ok (.iload 4, 2) := dk_21 4 (dk_at dksX4_pour_0 16 rfl rfl)
theorem dX4_pour_18 : decode cX4_pour 18 = .ok (.aload_n 0, 1) := dk_42 (dk_at dksX4_pour_0 18 rfl rfl)
theorem dX4_pour_19 : decode cX4_pour 19 = .ok (.getfield 16, 3) := dk_180 0 16 (dk_at dksX4_pour_0 19 rfl rfl)
theorem dX4_pour_22 : decode cX4_pour 22 = .ok (.if_icmp .ge 40, 3) := dk_162 0 40 (dk_at dksX4_pour_1 0 rfl rfl)
theorem dX4_pour_25 : decode cX4_pour 25 = .ok (.aload_n 0, 1) := dk_42 (dk_at dksX4_pour_1 3 rfl rfl)
theorem dX4_pour_26 : decode cX4_pour 26 = .ok (.getfield 13, 3) := dk_180 0 13 (dk_at dksX4_pour_1 4 rfl rfl)
theorem dX4_pour_29 : decode cX4_pour 29 = .ok (.iload 4, 2) := dk_21 4 (dk_at dksX4_pour_1 7 rfl rfl)
theorem dX4_pour_31 : decode cX4_pour 31 = .ok (.iaload, 1) := dk_46 (dk_at dksX4_pour_1 9 rfl rfl)
theorem dX4_pour_32 : decode cX4_pour 32 = .ok (.iconst 1, 1) := dk_4 (dk_at dksX4_pour_1 10 rfl rfl)
theorem dX4_pour_33 : decode cX4_pour 33 = .ok (.iload_n 2, 1) := dk_28 (dk_at dksX4_pour_1 11 rfl rfl)
theorem dX4_pour_34 : decode cX4_pour 34 = .ok (.iconst 3, 1) := dk_6 (dk_at dksX4_pour_1 12 rfl rfl)
theorem dX4_pour_35 : decode cX4_pour 35 = .ok (.iand, 1) := dk_126 (dk_at dksX4_pour_1 13 rfl rfl)
theorem dX4_pour_36 : decode cX4_pour 36 = .ok (.iadd, 1) := dk_96 (dk_at dksX4_pour_1 14 rfl rfl)
theorem dX4_pour_37 : decode cX4_pour 37 = .ok (.if_icmp .ne 19, 3) := dk_160 0 19 (dk_at dksX4_pour_1 15 rfl rfl)
theorem dX4_pour_40 : decode cX4_pour 40 = .ok (.aload_n 0, 1) := dk_42 (dk_at dksX4_pour_1 18 rfl rfl)
theorem dX4_pour_41 : decode cX4_pour 41 = .ok (.getfield 13, 3) := dk_180 0 13 (dk_at dksX4_pour_1 19 rfl rfl)
theorem dX4_pour_44 : decode cX4_pour 44 = .ok (.iload 4, 2) := dk_21 4 (dk_at dksX4_pour_1 22 rfl rfl)
theorem dX4_pour_46 : decode cX4_pour 46 = .ok (.iconst 1, 1) := dk_4 (dk_at dksX4_pour_2 0 rfl rfl)
theorem dX4_pour_47 : decode cX4_pour 47 = .ok (.iload_n 1, 1) := dk_27 (dk_at dksX4_pour_2 1 rfl rfl)
theorem dX4_pour_48 : decode cX4_pour 48 = .ok (.iconst 3, 1) := dk_6 (dk_at dksX4_pour_2 2 rfl rfl)
theorem dX4_pour_49 : decode cX4_pour 49 = .ok (.iand, 1) := dk_126 (dk_at dksX4_pour_2 3 rfl rfl)
theorem dX4_pour_50 : decode cX4_pour 50 = .ok (.iadd, 1) := dk_96 (dk_at dksX4_pour_2 4 rfl rfl)
theorem dX4_pour_51 : decode cX4_pour 51 = .ok (.iastore, 1) := dk_79 (dk_at dksX4_pour_2 5 rfl rfl)
theorem dX4_pour_52 : decode cX4_pour 52 = .ok (.iload_n 3, 1) := dk_29 (dk_at dksX4_pour_2 6 rfl rfl)
theorem dX4_pour_53 : decode cX4_pour 53 = .ok (.iconst 1, 1) := dk_4 (dk_at dksX4_pour_2 7 rfl rfl)
theorem dX4_pour_54 : decode cX4_pour 54 = .ok (.iadd, 1) := dk_96 (dk_at dksX4_pour_2 8 rfl rfl)
theorem dX4_pour_55 : decode cX4_pour 55 = .ok (.istore_n 3, 1) := dk_62 (dk_at dksX4_pour_2 9 rfl rfl)
theorem dX4_pour_56 : decode cX4_pour 56 = .ok (.iinc 4 1, 3) := dk_132 4 1 (dk_at dksX4_pour_2 10 rfl rfl)
theorem dX4_pour_59 : decode cX4_pour 59 = .ok (.goto (-43), 3) := dk_167 255 213 (dk_at dksX4_pour_2 13 rfl rfl)
theorem dX4_pour_62 : decode cX4_pour 62 = .ok (.iload_n 3, 1) := dk_29 (dk_at dksX4_pour_2 16 rfl rfl)
theorem dX4_pour_63 : decode cX4_pour 63 = .ok (.ireturn, 1) := dk_172 (dk_at dksX4_pour_2 17 rfl rfl)
theorem q13 : (Jvm.Cond.initialized "DaryArrayHeapDeskModel") ∈ lw_all := lw_g (lw_at lw_m1 10 rfl) rfl
theorem q403 : (Jvm.Cond.instantiable "DaryArrayHeapDeskModel" (3 : Nat)) ∈ lw_all := lw_g (lw_at lw_m2 160 rfl) rfl
theorem q405 : (Jvm.Cond.instanceMethod ({ cls := "DaryArrayHeapDeskModel", name := "<init>", desc := "()V" } : Jvm.MethodName)) ∈ lw_all := lw_g (lw_at lw_m2 162 rfl) rfl
theorem q406 : (Jvm.Cond.code ({ cls := "DaryArrayHeapDeskModel", name := "<init>", desc := "()V" } : Jvm.MethodName) prog_8_method_1_code (1 : Nat) (Option.none : Option Jvm.ClassFile.FieldType)) ∈ lw_all := lw_g (lw_at lw_m2 163 rfl) rfl
theorem q407 : (Jvm.Cond.methodLink "DaryArrayHeapDeskModel" (1 : Nat) ({ cls := "java/lang/Object", name := "<init>", desc := "()V" } : Jvm.MethodName)) ∈ lw_all := lw_g (lw_at lw_m2 164 rfl) rfl
theorem q408 : (Jvm.Cond.fieldLink "DaryArrayHeapDeskModel" (7 : Nat) "DaryArrayHeapDeskModel" "keys" "[I") ∈ lw_all := lw_g (lw_at lw_m2 165 rfl) rfl
theorem q409 : (Jvm.Cond.fieldLink "DaryArrayHeapDeskModel" (13 : Nat) "DaryArrayHeapDeskModel" "home" "[I") ∈ lw_all := lw_g (lw_at lw_m2 166 rfl) rfl
theorem q410 : (Jvm.Cond.fieldLink "DaryArrayHeapDeskModel" (16 : Nat) "DaryArrayHeapDeskModel" "puts" "I") ∈ lw_all := lw_g (lw_at lw_m2 167 rfl) rfl
theorem q411 : (Jvm.Cond.laysFinal "DaryArrayHeapDeskModel" "DaryArrayHeapDeskModel" "keys" "[I") ∈ lw_all := lw_g (lw_at lw_m2 168 rfl) rfl
theorem q412 : (Jvm.Cond.soleField "DaryArrayHeapDeskModel" "keys") ∈ lw_all := lw_g (lw_at lw_m2 169 rfl) rfl
theorem q413 : (Jvm.Cond.laysFinal "DaryArrayHeapDeskModel" "DaryArrayHeapDeskModel" "home" "[I") ∈ lw_all := lw_g (lw_at lw_m2 170 rfl) rfl
theorem q414 : (Jvm.Cond.soleField "DaryArrayHeapDeskModel" "home") ∈ lw_all := lw_g (lw_at lw_m2 171 rfl) rfl
theorem q415 : (Jvm.Cond.lays "DaryArrayHeapDeskModel" "DaryArrayHeapDeskModel" "puts" "I") ∈ lw_all := lw_g (lw_at lw_m2 172 rfl) rfl
theorem q416 : (Jvm.Cond.soleField "DaryArrayHeapDeskModel" "puts") ∈ lw_all := lw_g (lw_at lw_m2 173 rfl) rfl
theorem q417 : (Jvm.Cond.superclass "DaryArrayHeapDeskModel" "java/lang/Object") ∈ lw_all := lw_g (lw_at lw_m2 174 rfl) rfl
theorem q420 : (Jvm.Cond.instanceMethod ({ cls := "DaryArrayHeapDeskModel", name := "put", desc := "(II)Z" } : Jvm.MethodName)) ∈ lw_all := lw_g (lw_at lw_m2 177 rfl) rfl
theorem q421 : (Jvm.Cond.selects "DaryArrayHeapDeskModel" ({ cls := "DaryArrayHeapDeskModel", name := "put", desc := "(II)Z" } : Jvm.MethodName) ({ cls := "DaryArrayHeapDeskModel", name := "put", desc := "(II)Z" } : Jvm.MethodName)) ∈ lw_all := lw_g (lw_at lw_m2 178 rfl) rfl
theorem q422 : (Jvm.Cond.code ({ cls := "DaryArrayHeapDeskModel", name := "put", desc := "(II)Z" } : Jvm.MethodName) prog_8_method_3_code (3 : Nat) (Option.some Jvm.ClassFile.FieldType.boolean)) ∈ lw_all := lw_g (lw_at lw_m2 179 rfl) rfl
theorem q423 : (Jvm.Cond.constant "DaryArrayHeapDeskModel" (20 : Nat) (65535 : Int32)) ∈ lw_all := lw_g (lw_at lw_m2 180 rfl) rfl
theorem q425 : (Jvm.Cond.instanceMethod ({ cls := "DaryArrayHeapDeskModel", name := "four", desc := "(IIIII)Z" } : Jvm.MethodName)) ∈ lw_all := lw_g (lw_at lw_m2 182 rfl) rfl
theorem q426 : (Jvm.Cond.selects "DaryArrayHeapDeskModel" ({ cls := "DaryArrayHeapDeskModel", name := "four", desc := "(IIIII)Z" } : Jvm.MethodName) ({ cls := "DaryArrayHeapDeskModel", name := "four", desc := "(IIIII)Z" } : Jvm.MethodName)) ∈ lw_all := lw_g (lw_at lw_m2 183 rfl) rfl
theorem q427 : (Jvm.Cond.code ({ cls := "DaryArrayHeapDeskModel", name := "four", desc := "(IIIII)Z" } : Jvm.MethodName) prog_8_method_4_code (6 : Nat) (Option.some Jvm.ClassFile.FieldType.boolean)) ∈ lw_all := lw_g (lw_at lw_m2 184 rfl) rfl
theorem q428 : (Jvm.Cond.methodLink "DaryArrayHeapDeskModel" (21 : Nat) ({ cls := "DaryArrayHeapDeskModel", name := "clear", desc := "(I)V" } : Jvm.MethodName)) ∈ lw_all := lw_g (lw_at lw_m2 185 rfl) rfl
theorem q429 : (Jvm.Cond.instanceMethod ({ cls := "DaryArrayHeapDeskModel", name := "clear", desc := "(I)V" } : Jvm.MethodName)) ∈ lw_all := lw_g (lw_at lw_m2 186 rfl) rfl
theorem q430 : (Jvm.Cond.selects "DaryArrayHeapDeskModel" ({ cls := "DaryArrayHeapDeskModel", name := "clear", desc := "(I)V" } : Jvm.MethodName) ({ cls := "DaryArrayHeapDeskModel", name := "clear", desc := "(I)V" } : Jvm.MethodName)) ∈ lw_all := lw_g (lw_at lw_m2 187 rfl) rfl
theorem q431 : (Jvm.Cond.code ({ cls := "DaryArrayHeapDeskModel", name := "clear", desc := "(I)V" } : Jvm.MethodName) prog_8_method_9_code (3 : Nat) (Option.none : Option Jvm.ClassFile.FieldType)) ∈ lw_all := lw_g (lw_at lw_m2 188 rfl) rfl
theorem q432 : (Jvm.Cond.methodLink "DaryArrayHeapDeskModel" (25 : Nat) ({ cls := "DaryArrayHeapDeskModel", name := "put", desc := "(II)Z" } : Jvm.MethodName)) ∈ lw_all := lw_g (lw_at lw_m2 189 rfl) rfl
theorem q434 : (Jvm.Cond.instanceMethod ({ cls := "DaryArrayHeapDeskModel", name := "least", desc := "(I)I" } : Jvm.MethodName)) ∈ lw_all := lw_g (lw_at lw_m2 191 rfl) rfl
theorem q435 : (Jvm.Cond.selects "DaryArrayHeapDeskModel" ({ cls := "DaryArrayHeapDeskModel", name := "least", desc := "(I)I" } : Jvm.MethodName) ({ cls := "DaryArrayHeapDeskModel", name := "least", desc := "(I)I" } : Jvm.MethodName)) ∈ lw_all := lw_g (lw_at lw_m2 192 rfl) rfl
theorem q436 : (Jvm.Cond.code ({ cls := "DaryArrayHeapDeskModel", name := "least", desc := "(I)I" } : Jvm.MethodName) prog_8_method_5_code (3 : Nat) (Option.some Jvm.ClassFile.FieldType.int)) ∈ lw_all := lw_g (lw_at lw_m2 193 rfl) rfl
theorem q437 : (Jvm.Cond.methodLink "DaryArrayHeapDeskModel" (29 : Nat) ({ cls := "DaryArrayHeapDeskModel", name := "first", desc := "(I)I" } : Jvm.MethodName)) ∈ lw_all := lw_g (lw_at lw_m2 194 rfl) rfl
theorem q438 : (Jvm.Cond.privateMethod ({ cls := "DaryArrayHeapDeskModel", name := "first", desc := "(I)I" } : Jvm.MethodName)) ∈ lw_tbl := lw_at lw_m2 195 rfl
theorem q439 : (Jvm.Cond.instanceMethod ({ cls := "DaryArrayHeapDeskModel", name := "first", desc := "(I)I" } : Jvm.MethodName)) ∈ lw_all := lw_g (lw_at lw_m2 196 rfl) rfl
theorem q440 : (Jvm.Cond.code ({ cls := "DaryArrayHeapDeskModel", name := "first", desc := "(I)I" } : Jvm.MethodName) prog_8_method_2_code (4 : Nat) (Option.some Jvm.ClassFile.FieldType.int)) ∈ lw_all := lw_g (lw_at lw_m2 197 rfl) rfl
theorem q442 : (Jvm.Cond.instanceMethod ({ cls := "DaryArrayHeapDeskModel", name := "takeLeast", desc := "(I)I" } : Jvm.MethodName)) ∈ lw_all := lw_g (lw_at lw_m2 199 rfl) rfl
theorem q443 : (Jvm.Cond.selects "DaryArrayHeapDeskModel" ({ cls := "DaryArrayHeapDeskModel", name := "takeLeast", desc := "(I)I" } : Jvm.MethodName) ({ cls := "DaryArrayHeapDeskModel", name := "takeLeast", desc := "(I)I" } : Jvm.MethodName)) ∈ lw_all := lw_g (lw_at lw_m2 200 rfl) rfl
theorem q444 : (Jvm.Cond.code ({ cls := "DaryArrayHeapDeskModel", name := "takeLeast", desc := "(I)I" } : Jvm.MethodName) prog_8_method_6_code (3 : Nat) (Option.some Jvm.ClassFile.FieldType.int)) ∈ lw_all := lw_g (lw_at lw_m2 201 rfl) rfl
theorem q446 : (Jvm.Cond.instanceMethod ({ cls := "DaryArrayHeapDeskModel", name := "size", desc := "(I)I" } : Jvm.MethodName)) ∈ lw_all := lw_g (lw_at lw_m2 203 rfl) rfl
theorem q447 : (Jvm.Cond.selects "DaryArrayHeapDeskModel" ({ cls := "DaryArrayHeapDeskModel", name := "size", desc := "(I)I" } : Jvm.MethodName) ({ cls := "DaryArrayHeapDeskModel", name := "size", desc := "(I)I" } : Jvm.MethodName)) ∈ lw_all := lw_g (lw_at lw_m2 204 rfl) rfl
theorem q448 : (Jvm.Cond.code ({ cls := "DaryArrayHeapDeskModel", name := "size", desc := "(I)I" } : Jvm.MethodName) prog_8_method_7_code (4 : Nat) (Option.some Jvm.ClassFile.FieldType.int)) ∈ lw_all := lw_g (lw_at lw_m2 205 rfl) rfl
theorem q450 : (Jvm.Cond.instanceMethod ({ cls := "DaryArrayHeapDeskModel", name := "isEmpty", desc := "(I)Z" } : Jvm.MethodName)) ∈ lw_all := lw_g (lw_at lw_m2 207 rfl) rfl
theorem q451 : (Jvm.Cond.selects "DaryArrayHeapDeskModel" ({ cls := "DaryArrayHeapDeskModel", name := "isEmpty", desc := "(I)Z" } : Jvm.MethodName) ({ cls := "DaryArrayHeapDeskModel", name := "isEmpty", desc := "(I)Z" } : Jvm.MethodName)) ∈ lw_all := lw_g (lw_at lw_m2 208 rfl) rfl
theorem q452 : (Jvm.Cond.code ({ cls := "DaryArrayHeapDeskModel", name := "isEmpty", desc := "(I)Z" } : Jvm.MethodName) prog_8_method_8_code (2 : Nat) (Option.some Jvm.ClassFile.FieldType.boolean)) ∈ lw_all := lw_g (lw_at lw_m2 209 rfl) rfl
theorem q453 : (Jvm.Cond.methodLink "DaryArrayHeapDeskModel" (33 : Nat) ({ cls := "DaryArrayHeapDeskModel", name := "size", desc := "(I)I" } : Jvm.MethodName)) ∈ lw_all := lw_g (lw_at lw_m2 210 rfl) rfl
theorem q456 : (Jvm.Cond.instanceMethod ({ cls := "DaryArrayHeapDeskModel", name := "pour", desc := "(II)I" } : Jvm.MethodName)) ∈ lw_all := lw_g (lw_at lw_m2 213 rfl) rfl
theorem q457 : (Jvm.Cond.selects "DaryArrayHeapDeskModel" ({ cls := "DaryArrayHeapDeskModel", name := "pour", desc := "(II)I" } : Jvm.MethodName) ({ cls := "DaryArrayHeapDeskModel", name := "pour", desc := "(II)I" } : Jvm.MethodName)) ∈ lw_all := lw_g (lw_at lw_m2 214 rfl) rfl
theorem q458 : (Jvm.Cond.code ({ cls := "DaryArrayHeapDeskModel", name := "pour", desc := "(II)I" } : Jvm.MethodName) prog_8_method_10_code (5 : Nat) (Option.some Jvm.ClassFile.FieldType.int)) ∈ lw_all := lw_g (lw_at lw_m2 215 rfl) rfl
theorem q467 : (Jvm.Cond.castable "DaryArrayHeapDeskModel" "java/lang/Object") ∈ lw_tbl := lw_at lw_m2 224 rfl
theorem in_X4 : ∀ w ∈ wsX40, w ∈ lw_all := lw_in wsX40 [411, 413, 415] (by decide +kernel) (by decide +kernel)
/-! the law's own entry -/
set_option maxRecDepth 100000
abbrev cL_law : ByteArray := code
def dkwL_law_13 : List UInt8 := [3, 172, 132, 3, 6, 167, 254, 205, 4, 172]
abbrev dktL_law_13 : List UInt8 := dkwL_law_13 ++ []
def dkwL_law_12 : List UInt8 := [29, 5, 96, 46, 182, 0, 46, 44, 42, 29, 4, 96, 46, 42, 29, 5, 96, 46, 182, 0, 50, 159, 0, 5]
abbrev dktL_law_12 : List UInt8 := dkwL_law_12 ++ dktL_law_13
def dkwL_law_11 : List UInt8 := [96, 46, 182, 0, 41, 44, 42, 29, 4, 96, 46, 182, 0, 45, 167, 0, 36, 43, 42, 29, 4, 96, 46, 42]
abbrev dktL_law_11 : List UInt8 := dkwL_law_11 ++ dktL_law_12
def dkwL_law_10 : List UInt8 := [4, 96, 46, 182, 0, 36, 44, 42, 29, 4, 96, 46, 182, 0, 40, 159, 0, 59, 3, 172, 43, 42, 29, 4]
abbrev dktL_law_10 : List UInt8 := dkwL_law_10 ++ dktL_law_11
def dkwL_law_9 : List UInt8 := [29, 4, 96, 46, 182, 0, 32, 44, 42, 29, 4, 96, 46, 182, 0, 35, 159, 0, 82, 3, 172, 43, 42, 29]
abbrev dktL_law_9 : List UInt8 := dkwL_law_9 ++ dktL_law_10
def dkwL_law_8 : List UInt8 := [42, 29, 4, 96, 46, 182, 0, 28, 44, 42, 29, 4, 96, 46, 182, 0, 31, 159, 0, 105, 3, 172, 43, 42]
abbrev dktL_law_8 : List UInt8 := dkwL_law_8 ++ dktL_law_9
def dkwL_law_7 : List UInt8 := [43, 42, 29, 4, 96, 46, 182, 0, 23, 44, 42, 29, 4, 96, 46, 182, 0, 27, 159, 0, 128, 3, 172, 43]
abbrev dktL_law_7 : List UInt8 := dkwL_law_7 ++ dktL_law_8
def dkwL_law_6 : List UInt8 := [46, 42, 29, 6, 96, 46, 42, 29, 7, 96, 46, 42, 29, 8, 96, 46, 182, 0, 22, 159, 0, 151, 3, 172]
abbrev dktL_law_6 : List UInt8 := dkwL_law_6 ++ dktL_law_7
def dkwL_law_5 : List UInt8 := [46, 42, 29, 7, 96, 46, 42, 29, 8, 96, 46, 182, 0, 18, 44, 42, 29, 4, 96, 46, 42, 29, 5, 96]
abbrev dktL_law_5 : List UInt8 := dkwL_law_5 ++ dktL_law_6
def dkwL_law_4 : List UInt8 := [46, 182, 0, 17, 159, 0, 214, 3, 172, 43, 42, 29, 4, 96, 46, 42, 29, 5, 96, 46, 42, 29, 6, 96]
abbrev dktL_law_4 : List UInt8 := dkwL_law_4 ++ dktL_law_5
def dkwL_law_3 : List UInt8 := [43, 42, 29, 4, 96, 46, 42, 29, 5, 96, 46, 182, 0, 13, 44, 42, 29, 4, 96, 46, 42, 29, 5, 96]
abbrev dktL_law_3 : List UInt8 := dkwL_law_3 ++ dktL_law_4
def dkwL_law_2 : List UInt8 := [170, 0, 0, 0, 0, 1, 33, 0, 0, 0, 0, 0, 0, 0, 7, 0, 0, 0, 47, 0, 0, 0, 80, 0, 0, 0, 143, 0, 0, 0, 166, 0, 0, 0, 189, 0, 0, 0, 212, 0, 0, 0, 235, 0, 0, 1, 0]
abbrev dktL_law_2 : List UInt8 := dkwL_law_2 ++ dktL_law_3
def dkwL_law_1 : List UInt8 := [163, 1, 48, 42, 29, 46, 16, 15, 126]
abbrev dktL_law_1 : List UInt8 := dkwL_law_1 ++ dktL_law_2
def dkwL_law_0 : List UInt8 := [187, 0, 7, 89, 183, 0, 9, 76, 187, 0, 10, 89, 183, 0, 12, 77, 3, 62, 29, 42, 190, 16, 6, 100]
abbrev dktL_law_0 : List UInt8 := dkwL_law_0 ++ dktL_law_1
theorem dksL_law_0 : cL_law.data.toList.drop 0 = dktL_law_0 := by decide +kernel
theorem dksL_law_1 : cL_law.data.toList.drop 24 = dktL_law_1 := dk_seg dksL_law_0 24 rfl rfl
theorem dksL_law_2 : cL_law.data.toList.drop 33 = dktL_law_2 := dk_seg dksL_law_1 9 rfl rfl
theorem dksL_law_3 : cL_law.data.toList.drop 80 = dktL_law_3 := dk_seg dksL_law_2 47 rfl rfl
theorem dksL_law_4 : cL_law.data.toList.drop 104 = dktL_law_4 := dk_seg dksL_law_3 24 rfl rfl
theorem dksL_law_5 : cL_law.data.toList.drop 128 = dktL_law_5 := dk_seg dksL_law_4 24 rfl rfl
theorem dksL_law_6 : cL_law.data.toList.drop 152 = dktL_law_6 := dk_seg dksL_law_5 24 rfl rfl
theorem dksL_law_7 : cL_law.data.toList.drop 176 = dktL_law_7 := dk_seg dksL_law_6 24 rfl rfl
theorem dksL_law_8 : cL_law.data.toList.drop 200 = dktL_law_8 := dk_seg dksL_law_7 24 rfl rfl
theorem dksL_law_9 : cL_law.data.toList.drop 224 = dktL_law_9 := dk_seg dksL_law_8 24 rfl rfl
theorem dksL_law_10 : cL_law.data.toList.drop 248 = dktL_law_10 := dk_seg dksL_law_9 24 rfl rfl
theorem dksL_law_11 : cL_law.data.toList.drop 272 = dktL_law_11 := dk_seg dksL_law_10 24 rfl rfl
theorem dksL_law_12 : cL_law.data.toList.drop 296 = dktL_law_12 := dk_seg dksL_law_11 24 rfl rfl
theorem dksL_law_13 : cL_law.data.toList.drop 320 = dktL_law_13 := dk_seg dksL_law_12 24 rfl rfl
theorem dL_law_0 : decode cL_law 0 = .ok (.new 7, 3) := dk_187 0 7 (dk_at dksL_law_0 0 rfl rfl)
theorem dL_law_3 : decode cL_law 3 = .ok (.dup, 1) := dk_89 (dk_at dksL_law_0 3 rfl rfl)
theorem dL_law_4 : decode cL_law 4 = .ok (.invokespecial 9, 3) := dk_183 0 9 (dk_at dksL_law_0 4 rfl rfl)
theorem dL_law_7 : decode cL_law 7 = .ok (.astore_n 1, 1) := dk_76 (dk_at dksL_law_0 7 rfl rfl)
theorem dL_law_8 : decode cL_law 8 = .ok (.new 10, 3) := dk_187 0 10 (dk_at dksL_law_0 8 rfl rfl)
theorem dL_law_11 : decode cL_law 11 = .ok (.dup, 1) := dk_89 (dk_at dksL_law_0 11 rfl rfl)
theorem dL_law_12 : decode cL_law 12 = .ok (.invokespecial 12, 3) := dk_183 0 12 (dk_at dksL_law_0 12 rfl rfl)
theorem dL_law_15 : decode cL_law 15 = .ok (.astore_n 2, 1) := dk_77 (dk_at dksL_law_0 15 rfl rfl)
theorem dL_law_16 : decode cL_law 16 = .ok (.iconst 0, 1) := dk_3 (dk_at dksL_law_0 16 rfl rfl)
theorem dL_law_17 : decode cL_law 17 = .ok (.istore_n 3, 1) := dk_62 (dk_at dksL_law_0 17 rfl rfl)
theorem dL_law_18 : decode cL_law 18 = .ok (.iload_n 3, 1) := dk_29 (dk_at dksL_law_0 18 rfl rfl)
theorem dL_law_19 : decode cL_law 19 = .ok (.aload_n 0, 1) := dk_42 (dk_at dksL_law_0 19 rfl rfl)
theorem dL_law_20 : decode cL_law 20 = .ok (.arraylength, 1) := dk_190 (dk_at dksL_law_0 20 rfl rfl)
theorem dL_law_21 : decode cL_law 21 = .ok (.bipush 6, 2) := dk_16 6 (dk_at dksL_law_0 21 rfl rfl)
theorem dL_law_23 : decode cL_law 23 = .ok (.isub, 1) := dk_100 (dk_at dksL_law_0 23 rfl rfl)
theorem dL_law_24 : decode cL_law 24 = .ok (.if_icmp .gt 304, 3) := dk_163 1 48 (dk_at dksL_law_1 0 rfl rfl)
theorem dL_law_27 : decode cL_law 27 = .ok (.aload_n 0, 1) := dk_42 (dk_at dksL_law_1 3 rfl rfl)
theorem dL_law_28 : decode cL_law 28 = .ok (.iload_n 3, 1) := dk_29 (dk_at dksL_law_1 4 rfl rfl)
theorem dL_law_29 : decode cL_law 29 = .ok (.iaload, 1) := dk_46 (dk_at dksL_law_1 5 rfl rfl)
theorem dL_law_30 : decode cL_law 30 = .ok (.bipush 15, 2) := dk_16 15 (dk_at dksL_law_1 6 rfl rfl)
theorem dL_law_32 : decode cL_law 32 = .ok (.iand, 1) := dk_126 (dk_at dksL_law_1 8 rfl rfl)
theorem dL_law_33 : decode cL_law 33 = .ok (.tableswitch 289 0 7 #[47, 80, 143, 166, 189, 212, 235, 256], 47) := by decide +kernel
theorem dL_law_80 : decode cL_law 80 = .ok (.aload_n 1, 1) := dk_43 (dk_at dksL_law_3 0 rfl rfl)
theorem dL_law_81 : decode cL_law 81 = .ok (.aload_n 0, 1) := dk_42 (dk_at dksL_law_3 1 rfl rfl)
theorem dL_law_82 : decode cL_law 82 = .ok (.iload_n 3, 1) := dk_29 (dk_at dksL_law_3 2 rfl rfl)
theorem dL_law_83 : decode cL_law 83 = .ok (.iconst 1, 1) := dk_4 (dk_at dksL_law_3 3 rfl rfl)
theorem dL_law_84 : decode cL_law 84 = .ok (.iadd, 1) := dk_96 (dk_at dksL_law_3 4 rfl rfl)
theorem dL_law_85 : decode cL_law 85 = .ok (.iaload, 1) := dk_46 (dk_at dksL_law_3 5 rfl rfl)
theorem dL_law_86 : decode cL_law 86 = .ok (.aload_n 0, 1) := dk_42 (dk_at dksL_law_3 6 rfl rfl)
theorem dL_law_87 : decode cL_law 87 = .ok (.iload_n 3, 1) := dk_29 (dk_at dksL_law_3 7 rfl rfl)
theorem dL_law_88 : decode cL_law 88 = .ok (.iconst 2, 1) := dk_5 (dk_at dksL_law_3 8 rfl rfl)
theorem dL_law_89 : decode cL_law 89 = .ok (.iadd, 1) := dk_96 (dk_at dksL_law_3 9 rfl rfl)
theorem dL_law_90 : decode cL_law 90 = .ok (.iaload, 1) := dk_46 (dk_at dksL_law_3 10 rfl rfl)
theorem dL_law_91 : decode cL_law 91 = .ok (.invokevirtual 13, 3) := dk_182 0 13 (dk_at dksL_law_3 11 rfl rfl)
theorem dL_law_94 : decode cL_law 94 = .ok (.aload_n 2, 1) := dk_44 (dk_at dksL_law_3 14 rfl rfl)
theorem dL_law_95 : decode cL_law 95 = .ok (.aload_n 0, 1) := dk_42 (dk_at dksL_law_3 15 rfl rfl)
theorem dL_law_96 : decode cL_law 96 = .ok (.iload_n 3, 1) := dk_29 (dk_at dksL_law_3 16 rfl rfl)
theorem dL_law_97 : decode cL_law 97 = .ok (.iconst 1, 1) := dk_4 (dk_at dksL_law_3 17 rfl rfl)
theorem dL_law_98 : decode cL_law 98 = .ok (.iadd, 1) := dk_96 (dk_at dksL_law_3 18 rfl rfl)
theorem dL_law_99 : decode cL_law 99 = .ok (.iaload, 1) := dk_46 (dk_at dksL_law_3 19 rfl rfl)
theorem dL_law_100 : decode cL_law 100 = .ok (.aload_n 0, 1) := dk_42 (dk_at dksL_law_3 20 rfl rfl)
theorem dL_law_101 : decode cL_law 101 = .ok (.iload_n 3, 1) := dk_29 (dk_at dksL_law_3 21 rfl rfl)
theorem dL_law_102 : decode cL_law 102 = .ok (.iconst 2, 1) := dk_5 (dk_at dksL_law_3 22 rfl rfl)
theorem dL_law_103 : decode cL_law 103 = .ok (.iadd, 1) := dk_96 (dk_at dksL_law_3 23 rfl rfl)
theorem dL_law_104 : decode cL_law 104 = .ok (.iaload, 1) := dk_46 (dk_at dksL_law_4 0 rfl rfl)
theorem dL_law_105 : decode cL_law 105 = .ok (.invokevirtual 17, 3) := dk_182 0 17 (dk_at dksL_law_4 1 rfl rfl)
theorem dL_law_108 : decode cL_law 108 = .ok (.if_icmp .eq 214, 3) := dk_159 0 214 (dk_at dksL_law_4 4 rfl rfl)
theorem dL_law_111 : decode cL_law 111 = .ok (.iconst 0, 1) := dk_3 (dk_at dksL_law_4 7 rfl rfl)
theorem dL_law_112 : decode cL_law 112 = .ok (.ireturn, 1) := dk_172 (dk_at dksL_law_4 8 rfl rfl)
theorem dL_law_113 : decode cL_law 113 = .ok (.aload_n 1, 1) := dk_43 (dk_at dksL_law_4 9 rfl rfl)
theorem dL_law_114 : decode cL_law 114 = .ok (.aload_n 0, 1) := dk_42 (dk_at dksL_law_4 10 rfl rfl)
theorem dL_law_115 : decode cL_law 115 = .ok (.iload_n 3, 1) := dk_29 (dk_at dksL_law_4 11 rfl rfl)
theorem dL_law_116 : decode cL_law 116 = .ok (.iconst 1, 1) := dk_4 (dk_at dksL_law_4 12 rfl rfl)
theorem dL_law_117 : decode cL_law 117 = .ok (.iadd, 1) := dk_96 (dk_at dksL_law_4 13 rfl rfl)
theorem dL_law_118 : decode cL_law 118 = .ok (.iaload, 1) := dk_46 (dk_at dksL_law_4 14 rfl rfl)
theorem dL_law_119 : decode cL_law 119 = .ok (.aload_n 0, 1) := dk_42 (dk_at dksL_law_4 15 rfl rfl)
theorem dL_law_120 : decode cL_law 120 = .ok (.iload_n 3, 1) := dk_29 (dk_at dksL_law_4 16 rfl rfl)
theorem dL_law_121 : decode cL_law 121 = .ok (.iconst 2, 1) := dk_5 (dk_at dksL_law_4 17 rfl rfl)
theorem dL_law_122 : decode cL_law 122 = .ok (.iadd, 1) := dk_96 (dk_at dksL_law_4 18 rfl rfl)
theorem dL_law_123 : decode cL_law 123 = .ok (.iaload, 1) := dk_46 (dk_at dksL_law_4 19 rfl rfl)
theorem dL_law_124 : decode cL_law 124 = .ok (.aload_n 0, 1) := dk_42 (dk_at dksL_law_4 20 rfl rfl)
theorem dL_law_125 : decode cL_law 125 = .ok (.iload_n 3, 1) := dk_29 (dk_at dksL_law_4 21 rfl rfl)
theorem dL_law_126 : decode cL_law 126 = .ok (.iconst 3, 1) := dk_6 (dk_at dksL_law_4 22 rfl rfl)
theorem dL_law_127 : decode cL_law 127 = .ok (.iadd, 1) := dk_96 (dk_at dksL_law_4 23 rfl rfl)
theorem dL_law_128 : decode cL_law 128 = .ok (.iaload, 1) := dk_46 (dk_at dksL_law_5 0 rfl rfl)
theorem dL_law_129 : decode cL_law 129 = .ok (.aload_n 0, 1) := dk_42 (dk_at dksL_law_5 1 rfl rfl)
theorem dL_law_130 : decode cL_law 130 = .ok (.iload_n 3, 1) := dk_29 (dk_at dksL_law_5 2 rfl rfl)
theorem dL_law_131 : decode cL_law 131 = .ok (.iconst 4, 1) := dk_7 (dk_at dksL_law_5 3 rfl rfl)
theorem dL_law_132 : decode cL_law 132 = .ok (.iadd, 1) := dk_96 (dk_at dksL_law_5 4 rfl rfl)
theorem dL_law_133 : decode cL_law 133 = .ok (.iaload, 1) := dk_46 (dk_at dksL_law_5 5 rfl rfl)
theorem dL_law_134 : decode cL_law 134 = .ok (.aload_n 0, 1) := dk_42 (dk_at dksL_law_5 6 rfl rfl)
theorem dL_law_135 : decode cL_law 135 = .ok (.iload_n 3, 1) := dk_29 (dk_at dksL_law_5 7 rfl rfl)
theorem dL_law_136 : decode cL_law 136 = .ok (.iconst 5, 1) := dk_8 (dk_at dksL_law_5 8 rfl rfl)
theorem dL_law_137 : decode cL_law 137 = .ok (.iadd, 1) := dk_96 (dk_at dksL_law_5 9 rfl rfl)
theorem dL_law_138 : decode cL_law 138 = .ok (.iaload, 1) := dk_46 (dk_at dksL_law_5 10 rfl rfl)
theorem dL_law_139 : decode cL_law 139 = .ok (.invokevirtual 18, 3) := dk_182 0 18 (dk_at dksL_law_5 11 rfl rfl)
theorem dL_law_142 : decode cL_law 142 = .ok (.aload_n 2, 1) := dk_44 (dk_at dksL_law_5 14 rfl rfl)
theorem dL_law_143 : decode cL_law 143 = .ok (.aload_n 0, 1) := dk_42 (dk_at dksL_law_5 15 rfl rfl)
theorem dL_law_144 : decode cL_law 144 = .ok (.iload_n 3, 1) := dk_29 (dk_at dksL_law_5 16 rfl rfl)
theorem dL_law_145 : decode cL_law 145 = .ok (.iconst 1, 1) := dk_4 (dk_at dksL_law_5 17 rfl rfl)
theorem dL_law_146 : decode cL_law 146 = .ok (.iadd, 1) := dk_96 (dk_at dksL_law_5 18 rfl rfl)
theorem dL_law_147 : decode cL_law 147 = .ok (.iaload, 1) := dk_46 (dk_at dksL_law_5 19 rfl rfl)
theorem dL_law_148 : decode cL_law 148 = .ok (.aload_n 0, 1) := dk_42 (dk_at dksL_law_5 20 rfl rfl)
theorem dL_law_149 : decode cL_law 149 = .ok (.iload_n 3, 1) := dk_29 (dk_at dksL_law_5 21 rfl rfl)
theorem dL_law_150 : decode cL_law 150 = .ok (.iconst 2, 1) := dk_5 (dk_at dksL_law_5 22 rfl rfl)
theorem dL_law_151 : decode cL_law 151 = .ok (.iadd, 1) := dk_96 (dk_at dksL_law_5 23 rfl rfl)
theorem dL_law_152 : decode cL_law 152 = .ok (.iaload, 1) := dk_46 (dk_at dksL_law_6 0 rfl rfl)
theorem dL_law_153 : decode cL_law 153 = .ok (.aload_n 0, 1) := dk_42 (dk_at dksL_law_6 1 rfl rfl)
theorem dL_law_154 : decode cL_law 154 = .ok (.iload_n 3, 1) := dk_29 (dk_at dksL_law_6 2 rfl rfl)
theorem dL_law_155 : decode cL_law 155 = .ok (.iconst 3, 1) := dk_6 (dk_at dksL_law_6 3 rfl rfl)
theorem dL_law_156 : decode cL_law 156 = .ok (.iadd, 1) := dk_96 (dk_at dksL_law_6 4 rfl rfl)
theorem dL_law_157 : decode cL_law 157 = .ok (.iaload, 1) := dk_46 (dk_at dksL_law_6 5 rfl rfl)
theorem dL_law_158 : decode cL_law 158 = .ok (.aload_n 0, 1) := dk_42 (dk_at dksL_law_6 6 rfl rfl)
theorem dL_law_159 : decode cL_law 159 = .ok (.iload_n 3, 1) := dk_29 (dk_at dksL_law_6 7 rfl rfl)
theorem dL_law_160 : decode cL_law 160 = .ok (.iconst 4, 1) := dk_7 (dk_at dksL_law_6 8 rfl rfl)
theorem dL_law_161 : decode cL_law 161 = .ok (.iadd, 1) := dk_96 (dk_at dksL_law_6 9 rfl rfl)
theorem dL_law_162 : decode cL_law 162 = .ok (.iaload, 1) := dk_46 (dk_at dksL_law_6 10 rfl rfl)
theorem dL_law_163 : decode cL_law 163 = .ok (.aload_n 0, 1) := dk_42 (dk_at dksL_law_6 11 rfl rfl)
theorem dL_law_164 : decode cL_law 164 = .ok (.iload_n 3, 1) := dk_29 (dk_at dksL_law_6 12 rfl rfl)
theorem dL_law_165 : decode cL_law 165 = .ok (.iconst 5, 1) := dk_8 (dk_at dksL_law_6 13 rfl rfl)
theorem dL_law_166 : decode cL_law 166 = .ok (.iadd, 1) := dk_96 (dk_at dksL_law_6 14 rfl rfl)
theorem dL_law_167 : decode cL_law 167 = .ok (.iaload, 1) := dk_46 (dk_at dksL_law_6 15 rfl rfl)
theorem dL_law_168 : decode cL_law 168 = .ok (.invokevirtual 22, 3) := dk_182 0 22 (dk_at dksL_law_6 16 rfl rfl)
theorem dL_law_171 : decode cL_law 171 = .ok (.if_icmp .eq 151, 3) := dk_159 0 151 (dk_at dksL_law_6 19 rfl rfl)
theorem dL_law_174 : decode cL_law 174 = .ok (.iconst 0, 1) := dk_3 (dk_at dksL_law_6 22 rfl rfl)
theorem dL_law_175 : decode cL_law 175 = .ok (.ireturn, 1) := dk_172 (dk_at dksL_law_6 23 rfl rfl)
theorem dL_law_176 : decode cL_law 176 = .ok (.aload_n 1, 1) := dk_43 (dk_at dksL_law_7 0 rfl rfl)
theorem dL_law_177 : decode cL_law 177 = .ok (.aload_n 0, 1) := dk_42 (dk_at dksL_law_7 1 rfl rfl)
theorem dL_law_178 : decode cL_law 178 = .ok (.iload_n 3, 1) := dk_29 (dk_at dksL_law_7 2 rfl rfl)
theorem dL_law_179 : decode cL_law 179 = .ok (.iconst 1, 1) := dk_4 (dk_at dksL_law_7 3 rfl rfl)
theorem dL_law_180 : decode cL_law 180 = .ok (.iadd, 1) := dk_96 (dk_at dksL_law_7 4 rfl rfl)
theorem dL_law_181 : decode cL_law 181 = .ok (.iaload, 1) := dk_46 (dk_at dksL_law_7 5 rfl rfl)
theorem dL_law_182 : decode cL_law 182 = .ok (.invokevirtual 23, 3) := dk_182 0 23 (dk_at dksL_law_7 6 rfl rfl)
theorem dL_law_185 : decode cL_law 185 = .ok (.aload_n 2, 1) := dk_44 (dk_at dksL_law_7 9 rfl rfl)
theorem dL_law_186 : decode cL_law 186 = .ok (.aload_n 0, 1) := dk_42 (dk_at dksL_law_7 10 rfl rfl)
theorem dL_law_187 : decode cL_law 187 = .ok (.iload_n 3, 1) := dk_29 (dk_at dksL_law_7 11 rfl rfl)
theorem dL_law_188 : decode cL_law 188 = .ok (.iconst 1, 1) := dk_4 (dk_at dksL_law_7 12 rfl rfl)
theorem dL_law_189 : decode cL_law 189 = .ok (.iadd, 1) := dk_96 (dk_at dksL_law_7 13 rfl rfl)
theorem dL_law_190 : decode cL_law 190 = .ok (.iaload, 1) := dk_46 (dk_at dksL_law_7 14 rfl rfl)
theorem dL_law_191 : decode cL_law 191 = .ok (.invokevirtual 27, 3) := dk_182 0 27 (dk_at dksL_law_7 15 rfl rfl)
theorem dL_law_194 : decode cL_law 194 = .ok (.if_icmp .eq 128, 3) := dk_159 0 128 (dk_at dksL_law_7 18 rfl rfl)
theorem dL_law_197 : decode cL_law 197 = .ok (.iconst 0, 1) := dk_3 (dk_at dksL_law_7 21 rfl rfl)
theorem dL_law_198 : decode cL_law 198 = .ok (.ireturn, 1) := dk_172 (dk_at dksL_law_7 22 rfl rfl)
theorem dL_law_199 : decode cL_law 199 = .ok (.aload_n 1, 1) := dk_43 (dk_at dksL_law_7 23 rfl rfl)
theorem dL_law_200 : decode cL_law 200 = .ok (.aload_n 0, 1) := dk_42 (dk_at dksL_law_8 0 rfl rfl)
theorem dL_law_201 : decode cL_law 201 = .ok (.iload_n 3, 1) := dk_29 (dk_at dksL_law_8 1 rfl rfl)
theorem dL_law_202 : decode cL_law 202 = .ok (.iconst 1, 1) := dk_4 (dk_at dksL_law_8 2 rfl rfl)
theorem dL_law_203 : decode cL_law 203 = .ok (.iadd, 1) := dk_96 (dk_at dksL_law_8 3 rfl rfl)
theorem dL_law_204 : decode cL_law 204 = .ok (.iaload, 1) := dk_46 (dk_at dksL_law_8 4 rfl rfl)
theorem dL_law_205 : decode cL_law 205 = .ok (.invokevirtual 28, 3) := dk_182 0 28 (dk_at dksL_law_8 5 rfl rfl)
theorem dL_law_208 : decode cL_law 208 = .ok (.aload_n 2, 1) := dk_44 (dk_at dksL_law_8 8 rfl rfl)
theorem dL_law_209 : decode cL_law 209 = .ok (.aload_n 0, 1) := dk_42 (dk_at dksL_law_8 9 rfl rfl)
theorem dL_law_210 : decode cL_law 210 = .ok (.iload_n 3, 1) := dk_29 (dk_at dksL_law_8 10 rfl rfl)
theorem dL_law_211 : decode cL_law 211 = .ok (.iconst 1, 1) := dk_4 (dk_at dksL_law_8 11 rfl rfl)
theorem dL_law_212 : decode cL_law 212 = .ok (.iadd, 1) := dk_96 (dk_at dksL_law_8 12 rfl rfl)
theorem dL_law_213 : decode cL_law 213 = .ok (.iaload, 1) := dk_46 (dk_at dksL_law_8 13 rfl rfl)
theorem dL_law_214 : decode cL_law 214 = .ok (.invokevirtual 31, 3) := dk_182 0 31 (dk_at dksL_law_8 14 rfl rfl)
theorem dL_law_217 : decode cL_law 217 = .ok (.if_icmp .eq 105, 3) := dk_159 0 105 (dk_at dksL_law_8 17 rfl rfl)
theorem dL_law_220 : decode cL_law 220 = .ok (.iconst 0, 1) := dk_3 (dk_at dksL_law_8 20 rfl rfl)
theorem dL_law_221 : decode cL_law 221 = .ok (.ireturn, 1) := dk_172 (dk_at dksL_law_8 21 rfl rfl)
theorem dL_law_222 : decode cL_law 222 = .ok (.aload_n 1, 1) := dk_43 (dk_at dksL_law_8 22 rfl rfl)
theorem dL_law_223 : decode cL_law 223 = .ok (.aload_n 0, 1) := dk_42 (dk_at dksL_law_8 23 rfl rfl)
theorem dL_law_224 : decode cL_law 224 = .ok (.iload_n 3, 1) := dk_29 (dk_at dksL_law_9 0 rfl rfl)
theorem dL_law_225 : decode cL_law 225 = .ok (.iconst 1, 1) := dk_4 (dk_at dksL_law_9 1 rfl rfl)
theorem dL_law_226 : decode cL_law 226 = .ok (.iadd, 1) := dk_96 (dk_at dksL_law_9 2 rfl rfl)
theorem dL_law_227 : decode cL_law 227 = .ok (.iaload, 1) := dk_46 (dk_at dksL_law_9 3 rfl rfl)
theorem dL_law_228 : decode cL_law 228 = .ok (.invokevirtual 32, 3) := dk_182 0 32 (dk_at dksL_law_9 4 rfl rfl)
theorem dL_law_231 : decode cL_law 231 = .ok (.aload_n 2, 1) := dk_44 (dk_at dksL_law_9 7 rfl rfl)
theorem dL_law_232 : decode cL_law 232 = .ok (.aload_n 0, 1) := dk_42 (dk_at dksL_law_9 8 rfl rfl)
theorem dL_law_233 : decode cL_law 233 = .ok (.iload_n 3, 1) := dk_29 (dk_at dksL_law_9 9 rfl rfl)
theorem dL_law_234 : decode cL_law 234 = .ok (.iconst 1, 1) := dk_4 (dk_at dksL_law_9 10 rfl rfl)
theorem dL_law_235 : decode cL_law 235 = .ok (.iadd, 1) := dk_96 (dk_at dksL_law_9 11 rfl rfl)
theorem dL_law_236 : decode cL_law 236 = .ok (.iaload, 1) := dk_46 (dk_at dksL_law_9 12 rfl rfl)
theorem dL_law_237 : decode cL_law 237 = .ok (.invokevirtual 35, 3) := dk_182 0 35 (dk_at dksL_law_9 13 rfl rfl)
theorem dL_law_240 : decode cL_law 240 = .ok (.if_icmp .eq 82, 3) := dk_159 0 82 (dk_at dksL_law_9 16 rfl rfl)
theorem dL_law_243 : decode cL_law 243 = .ok (.iconst 0, 1) := dk_3 (dk_at dksL_law_9 19 rfl rfl)
theorem dL_law_244 : decode cL_law 244 = .ok (.ireturn, 1) := dk_172 (dk_at dksL_law_9 20 rfl rfl)
theorem dL_law_245 : decode cL_law 245 = .ok (.aload_n 1, 1) := dk_43 (dk_at dksL_law_9 21 rfl rfl)
theorem dL_law_246 : decode cL_law 246 = .ok (.aload_n 0, 1) := dk_42 (dk_at dksL_law_9 22 rfl rfl)
theorem dL_law_247 : decode cL_law 247 = .ok (.iload_n 3, 1) := dk_29 (dk_at dksL_law_9 23 rfl rfl)
theorem dL_law_248 : decode cL_law 248 = .ok (.iconst 1, 1) := dk_4 (dk_at dksL_law_10 0 rfl rfl)
theorem dL_law_249 : decode cL_law 249 = .ok (.iadd, 1) := dk_96 (dk_at dksL_law_10 1 rfl rfl)
theorem dL_law_250 : decode cL_law 250 = .ok (.iaload, 1) := dk_46 (dk_at dksL_law_10 2 rfl rfl)
theorem dL_law_251 : decode cL_law 251 = .ok (.invokevirtual 36, 3) := dk_182 0 36 (dk_at dksL_law_10 3 rfl rfl)
theorem dL_law_254 : decode cL_law 254 = .ok (.aload_n 2, 1) := dk_44 (dk_at dksL_law_10 6 rfl rfl)
theorem dL_law_255 : decode cL_law 255 = .ok (.aload_n 0, 1) := dk_42 (dk_at dksL_law_10 7 rfl rfl)
theorem dL_law_256 : decode cL_law 256 = .ok (.iload_n 3, 1) := dk_29 (dk_at dksL_law_10 8 rfl rfl)
theorem dL_law_257 : decode cL_law 257 = .ok (.iconst 1, 1) := dk_4 (dk_at dksL_law_10 9 rfl rfl)
theorem dL_law_258 : decode cL_law 258 = .ok (.iadd, 1) := dk_96 (dk_at dksL_law_10 10 rfl rfl)
theorem dL_law_259 : decode cL_law 259 = .ok (.iaload, 1) := dk_46 (dk_at dksL_law_10 11 rfl rfl)
theorem dL_law_260 : decode cL_law 260 = .ok (.invokevirtual 40, 3) := dk_182 0 40 (dk_at dksL_law_10 12 rfl rfl)
theorem dL_law_263 : decode cL_law 263 = .ok (.if_icmp .eq 59, 3) := dk_159 0 59 (dk_at dksL_law_10 15 rfl rfl)
theorem dL_law_266 : decode cL_law 266 = .ok (.iconst 0, 1) := dk_3 (dk_at dksL_law_10 18 rfl rfl)
theorem dL_law_267 : decode cL_law 267 = .ok (.ireturn, 1) := dk_172 (dk_at dksL_law_10 19 rfl rfl)
theorem dL_law_268 : decode cL_law 268 = .ok (.aload_n 1, 1) := dk_43 (dk_at dksL_law_10 20 rfl rfl)
theorem dL_law_269 : decode cL_law 269 = .ok (.aload_n 0, 1) := dk_42 (dk_at dksL_law_10 21 rfl rfl)
theorem dL_law_270 : decode cL_law 270 = .ok (.iload_n 3, 1) := dk_29 (dk_at dksL_law_10 22 rfl rfl)
theorem dL_law_271 : decode cL_law 271 = .ok (.iconst 1, 1) := dk_4 (dk_at dksL_law_10 23 rfl rfl)
theorem dL_law_272 : decode cL_law 272 = .ok (.iadd, 1) := dk_96 (dk_at dksL_law_11 0 rfl rfl)
theorem dL_law_273 : decode cL_law 273 = .ok (.iaload, 1) := dk_46 (dk_at dksL_law_11 1 rfl rfl)
theorem dL_law_274 : decode cL_law 274 = .ok (.invokevirtual 41, 3) := dk_182 0 41 (dk_at dksL_law_11 2 rfl rfl)
theorem dL_law_277 : decode cL_law 277 = .ok (.aload_n 2, 1) := dk_44 (dk_at dksL_law_11 5 rfl rfl)
theorem dL_law_278 : decode cL_law 278 = .ok (.aload_n 0, 1) := dk_42 (dk_at dksL_law_11 6 rfl rfl)
theorem dL_law_279 : decode cL_law 279 = .ok (.iload_n 3, 1) := dk_29 (dk_at dksL_law_11 7 rfl rfl)
theorem dL_law_280 : decode cL_law 280 = .ok (.iconst 1, 1) := dk_4 (dk_at dksL_law_11 8 rfl rfl)
theorem dL_law_281 : decode cL_law 281 = .ok (.iadd, 1) := dk_96 (dk_at dksL_law_11 9 rfl rfl)
theorem dL_law_282 : decode cL_law 282 = .ok (.iaload, 1) := dk_46 (dk_at dksL_law_11 10 rfl rfl)
theorem dL_law_283 : decode cL_law 283 = .ok (.invokevirtual 45, 3) := dk_182 0 45 (dk_at dksL_law_11 11 rfl rfl)
theorem dL_law_286 : decode cL_law 286 = .ok (.goto 36, 3) := dk_167 0 36 (dk_at dksL_law_11 14 rfl rfl)
theorem dL_law_289 : decode cL_law 289 = .ok (.aload_n 1, 1) := dk_43 (dk_at dksL_law_11 17 rfl rfl)
theorem dL_law_290 : decode cL_law 290 = .ok (.aload_n 0, 1) := dk_42 (dk_at dksL_law_11 18 rfl rfl)
theorem dL_law_291 : decode cL_law 291 = .ok (.iload_n 3, 1) := dk_29 (dk_at dksL_law_11 19 rfl rfl)
theorem dL_law_292 : decode cL_law 292 = .ok (.iconst 1, 1) := dk_4 (dk_at dksL_law_11 20 rfl rfl)
theorem dL_law_293 : decode cL_law 293 = .ok (.iadd, 1) := dk_96 (dk_at dksL_law_11 21 rfl rfl)
theorem dL_law_294 : decode cL_law 294 = .ok (.iaload, 1) := dk_46 (dk_at dksL_law_11 22 rfl rfl)
theorem dL_law_295 : decode cL_law 295 = .ok (.aload_n 0, 1) := dk_42 (dk_at dksL_law_11 23 rfl rfl)
theorem dL_law_296 : decode cL_law 296 = .ok (.iload_n 3, 1) := dk_29 (dk_at dksL_law_12 0 rfl rfl)
theorem dL_law_297 : decode cL_law 297 = .ok (.iconst 2, 1) := dk_5 (dk_at dksL_law_12 1 rfl rfl)
theorem dL_law_298 : decode cL_law 298 = .ok (.iadd, 1) := dk_96 (dk_at dksL_law_12 2 rfl rfl)
theorem dL_law_299 : decode cL_law 299 = .ok (.iaload, 1) := dk_46 (dk_at dksL_law_12 3 rfl rfl)
theorem dL_law_300 : decode cL_law 300 = .ok (.invokevirtual 46, 3) := dk_182 0 46 (dk_at dksL_law_12 4 rfl rfl)
theorem dL_law_303 : decode cL_law 303 = .ok (.aload_n 2, 1) := dk_44 (dk_at dksL_law_12 7 rfl rfl)
theorem dL_law_304 : decode cL_law 304 = .ok (.aload_n 0, 1) := dk_42 (dk_at dksL_law_12 8 rfl rfl)
theorem dL_law_305 : decode cL_law 305 = .ok (.iload_n 3, 1) := dk_29 (dk_at dksL_law_12 9 rfl rfl)
theorem dL_law_306 : decode cL_law 306 = .ok (.iconst 1, 1) := dk_4 (dk_at dksL_law_12 10 rfl rfl)
theorem dL_law_307 : decode cL_law 307 = .ok (.iadd, 1) := dk_96 (dk_at dksL_law_12 11 rfl rfl)
theorem dL_law_308 : decode cL_law 308 = .ok (.iaload, 1) := dk_46 (dk_at dksL_law_12 12 rfl rfl)
theorem dL_law_309 : decode cL_law 309 = .ok (.aload_n 0, 1) := dk_42 (dk_at dksL_law_12 13 rfl rfl)
theorem dL_law_310 : decode cL_law 310 = .ok (.iload_n 3, 1) := dk_29 (dk_at dksL_law_12 14 rfl rfl)
theorem dL_law_311 : decode cL_law 311 = .ok (.iconst 2, 1) := dk_5 (dk_at dksL_law_12 15 rfl rfl)
theorem dL_law_312 : decode cL_law 312 = .ok (.iadd, 1) := dk_96 (dk_at dksL_law_12 16 rfl rfl)
theorem dL_law_313 : decode cL_law 313 = .ok (.iaload, 1) := dk_46 (dk_at dksL_law_12 17 rfl rfl)
theorem dL_law_314 : decode cL_law 314 = .ok (.invokevirtual 50, 3) := dk_182 0 50 (dk_at dksL_law_12 18 rfl rfl)
theorem dL_law_317 : decode cL_law 317 = .ok (.if_icmp .eq 5, 3) := dk_159 0 5 (dk_at dksL_law_12 21 rfl rfl)
theorem dL_law_320 : decode cL_law 320 = .ok (.iconst 0, 1) := dk_3 (dk_at dksL_law_13 0 rfl rfl)
theorem dL_law_321 : decode cL_law 321 = .ok (.ireturn, 1) := dk_172 (dk_at dksL_law_13 1 rfl rfl)
theorem dL_law_322 : decode cL_law 322 = .ok (.iinc 3 6, 3) := dk_132 3 6 (dk_at dksL_law_13 2 rfl rfl)
theorem dL_law_325 : decode cL_law 325 = .ok (.goto (-307), 3) := dk_167 254 205 (dk_at dksL_law_13 5 rfl rfl)
theorem dL_law_328 : decode cL_law 328 = .ok (.iconst 1, 1) := dk_4 (dk_at dksL_law_13 8 rfl rfl)
theorem dL_law_329 : decode cL_law 329 = .ok (.ireturn, 1) := dk_172 (dk_at dksL_law_13 9 rfl rfl)
theorem q3 : (Jvm.Cond.initialized "DaryArrayHeapDeskLaw") ∈ lw_all := lw_g (lw_at lw_m1 0 rfl) rfl
set_option maxRecDepth 100000
theorem q20 : (Jvm.Cond.classLink "DaryArrayHeapDeskLaw" (7 : Nat) "DaryArrayHeapDesk") ∈ lw_all := lw_g (lw_at lw_m1 17 rfl) rfl
theorem q22 : (Jvm.Cond.methodLink "DaryArrayHeapDeskLaw" (9 : Nat) ({ cls := "DaryArrayHeapDesk", name := "<init>", desc := "()V" } : Jvm.MethodName)) ∈ lw_all := lw_g (lw_at lw_m1 19 rfl) rfl
theorem q193 : (Jvm.Cond.methodLink "DaryArrayHeapDeskLaw" (13 : Nat) ({ cls := "DaryArrayHeapDesk", name := "put", desc := "(II)Z" } : Jvm.MethodName)) ∈ lw_all := lw_g (lw_at lw_m1 190 rfl) rfl
theorem q293 : (Jvm.Cond.methodLink "DaryArrayHeapDeskLaw" (18 : Nat) ({ cls := "DaryArrayHeapDesk", name := "four", desc := "(IIIII)Z" } : Jvm.MethodName)) ∈ lw_all := lw_g (lw_at lw_m2 50 rfl) rfl
theorem q319 : (Jvm.Cond.methodLink "DaryArrayHeapDeskLaw" (23 : Nat) ({ cls := "DaryArrayHeapDesk", name := "least", desc := "(I)I" } : Jvm.MethodName)) ∈ lw_all := lw_g (lw_at lw_m2 76 rfl) rfl
theorem q356 : (Jvm.Cond.methodLink "DaryArrayHeapDeskLaw" (28 : Nat) ({ cls := "DaryArrayHeapDesk", name := "takeLeast", desc := "(I)I" } : Jvm.MethodName)) ∈ lw_all := lw_g (lw_at lw_m2 113 rfl) rfl
theorem q374 : (Jvm.Cond.methodLink "DaryArrayHeapDeskLaw" (32 : Nat) ({ cls := "DaryArrayHeapDesk", name := "size", desc := "(I)I" } : Jvm.MethodName)) ∈ lw_all := lw_g (lw_at lw_m2 131 rfl) rfl
theorem q384 : (Jvm.Cond.methodLink "DaryArrayHeapDeskLaw" (36 : Nat) ({ cls := "DaryArrayHeapDesk", name := "isEmpty", desc := "(I)Z" } : Jvm.MethodName)) ∈ lw_all := lw_g (lw_at lw_m2 141 rfl) rfl
theorem q388 : (Jvm.Cond.methodLink "DaryArrayHeapDeskLaw" (41 : Nat) ({ cls := "DaryArrayHeapDesk", name := "clear", desc := "(I)V" } : Jvm.MethodName)) ∈ lw_all := lw_g (lw_at lw_m2 145 rfl) rfl
theorem q398 : (Jvm.Cond.methodLink "DaryArrayHeapDeskLaw" (46 : Nat) ({ cls := "DaryArrayHeapDesk", name := "pour", desc := "(II)I" } : Jvm.MethodName)) ∈ lw_all := lw_g (lw_at lw_m2 155 rfl) rfl
theorem q402 : (Jvm.Cond.classLink "DaryArrayHeapDeskLaw" (10 : Nat) "DaryArrayHeapDeskModel") ∈ lw_all := lw_g (lw_at lw_m2 159 rfl) rfl
theorem q404 : (Jvm.Cond.methodLink "DaryArrayHeapDeskLaw" (12 : Nat) ({ cls := "DaryArrayHeapDeskModel", name := "<init>", desc := "()V" } : Jvm.MethodName)) ∈ lw_all := lw_g (lw_at lw_m2 161 rfl) rfl
theorem q419 : (Jvm.Cond.methodLink "DaryArrayHeapDeskLaw" (17 : Nat) ({ cls := "DaryArrayHeapDeskModel", name := "put", desc := "(II)Z" } : Jvm.MethodName)) ∈ lw_all := lw_g (lw_at lw_m2 176 rfl) rfl
theorem q424 : (Jvm.Cond.methodLink "DaryArrayHeapDeskLaw" (22 : Nat) ({ cls := "DaryArrayHeapDeskModel", name := "four", desc := "(IIIII)Z" } : Jvm.MethodName)) ∈ lw_all := lw_g (lw_at lw_m2 181 rfl) rfl
theorem q433 : (Jvm.Cond.methodLink "DaryArrayHeapDeskLaw" (27 : Nat) ({ cls := "DaryArrayHeapDeskModel", name := "least", desc := "(I)I" } : Jvm.MethodName)) ∈ lw_all := lw_g (lw_at lw_m2 190 rfl) rfl
theorem q441 : (Jvm.Cond.methodLink "DaryArrayHeapDeskLaw" (31 : Nat) ({ cls := "DaryArrayHeapDeskModel", name := "takeLeast", desc := "(I)I" } : Jvm.MethodName)) ∈ lw_all := lw_g (lw_at lw_m2 198 rfl) rfl
theorem q445 : (Jvm.Cond.methodLink "DaryArrayHeapDeskLaw" (35 : Nat) ({ cls := "DaryArrayHeapDeskModel", name := "size", desc := "(I)I" } : Jvm.MethodName)) ∈ lw_all := lw_g (lw_at lw_m2 202 rfl) rfl
theorem q449 : (Jvm.Cond.methodLink "DaryArrayHeapDeskLaw" (40 : Nat) ({ cls := "DaryArrayHeapDeskModel", name := "isEmpty", desc := "(I)Z" } : Jvm.MethodName)) ∈ lw_all := lw_g (lw_at lw_m2 206 rfl) rfl
theorem q454 : (Jvm.Cond.methodLink "DaryArrayHeapDeskLaw" (45 : Nat) ({ cls := "DaryArrayHeapDeskModel", name := "clear", desc := "(I)V" } : Jvm.MethodName)) ∈ lw_all := lw_g (lw_at lw_m2 211 rfl) rfl
theorem q455 : (Jvm.Cond.methodLink "DaryArrayHeapDeskLaw" (50 : Nat) ({ cls := "DaryArrayHeapDeskModel", name := "pour", desc := "(II)I" } : Jvm.MethodName)) ∈ lw_all := lw_g (lw_at lw_m2 212 rfl) rfl
theorem q474 : (Jvm.Cond.castable "[B" "java/lang/Object") ∈ lw_tbl := lw_at lw_m2 231 rfl
set_option maxRecDepth 100000
theorem q477 : (Jvm.Cond.castable "[I" "java/lang/Object") ∈ lw_tbl := lw_at lw_m2 234 rfl
set_option maxRecDepth 100000
theorem q473 : (Jvm.Cond.castable "[LDaryArrayHeap;" "java/lang/Object") ∈ lw_tbl := lw_at lw_m2 230 rfl
set_option maxRecDepth 100000
theorem q476 : (Jvm.Cond.castable "[Ljava/lang/Integer;" "java/lang/Object") ∈ lw_tbl := lw_at lw_m2 233 rfl
set_option maxRecDepth 100000
theorem q475 : (Jvm.Cond.castable "[Ljava/lang/Object;" "java/lang/Object") ∈ lw_tbl := lw_at lw_m2 232 rfl
set_option maxRecDepth 100000
theorem q16 : (Jvm.Cond.initialized "java/lang/Integer$IntegerCache") ∈ lw_all := lw_g (lw_at lw_m1 13 rfl) rfl
set_option maxRecDepth 100000
theorem q202 : (Jvm.Cond.laysStatic "java/lang/Integer$IntegerCache" "high" "I") ∈ lw_tbl := lw_at lw_m1 199 rfl
theorem q204 : (Jvm.Cond.laysStatic "java/lang/Integer$IntegerCache" "cache" "[Ljava/lang/Integer;") ∈ lw_tbl := lw_at lw_m1 201 rfl
theorem q462 : (Jvm.Cond.castable "java/lang/String" "java/lang/Comparable") ∈ lw_tbl := lw_at lw_m2 219 rfl
set_option maxRecDepth 100000
theorem q472 : (Jvm.Cond.castable "java/lang/String" "java/lang/Object") ∈ lw_tbl := lw_at lw_m2 229 rfl
theorem q18 : (Jvm.Cond.initialized "java/lang/System") ∈ lw_all := lw_g (lw_at lw_m1 15 rfl) rfl
set_option maxRecDepth 100000
theorem q254 : (Jvm.Cond.static ({ cls := "java/lang/System", name := "arraycopy", desc := "(Ljava/lang/Object;ILjava/lang/Object;II)V" } : Jvm.MethodName)) ∈ lw_all := lw_g (lw_at lw_m2 11 rfl) rfl
theorem q255 : (Jvm.Cond.native ({ cls := "java/lang/System", name := "arraycopy", desc := "(Ljava/lang/Object;ILjava/lang/Object;II)V" } : Jvm.MethodName)) ∈ lw_all := lw_g (lw_at lw_m2 12 rfl) rfl
theorem q279 : (Jvm.Cond.interfaceMethod "java/util/Comparator" "java/util/Comparator" "compare" "(Ljava/lang/Object;Ljava/lang/Object;)I") ∈ lw_tbl := lw_at lw_m2 36 rfl
set_option maxRecDepth 100000
theorem q280 : (Jvm.Cond.declares ({ cls := "java/util/Comparator", name := "compare", desc := "(Ljava/lang/Object;Ljava/lang/Object;)I" } : Jvm.MethodName)) ∈ lw_tbl := lw_at lw_m2 37 rfl
theorem q32 : (Jvm.Cond.arrayOver (Jvm.ClassFile.FieldType.object "DaryArrayHeap")) ∈ lw_tbl := lw_at lw_m1 29 rfl
set_option maxRecDepth 100000
theorem q135 : (Jvm.Cond.arrayClass Jvm.ClassFile.FieldType.byte) ∈ lw_all := lw_g (lw_at lw_m1 132 rfl) rfl
theorem q148 : (Jvm.Cond.arrayOver (Jvm.ClassFile.FieldType.object "java/lang/Object")) ∈ lw_tbl := lw_at lw_m1 145 rfl
theorem q297 : (Jvm.Cond.arrayOver (Jvm.ClassFile.FieldType.object "java/lang/Integer")) ∈ lw_tbl := lw_at lw_m2 54 rfl
theorem q418 : (Jvm.Cond.arrayClass Jvm.ClassFile.FieldType.int) ∈ lw_all := lw_g (lw_at lw_m2 175 rfl) rfl
end
section
set_option maxRecDepth 100000
/-! BASE: this module's own words. Classes: 0 DaryArrayHeap, 1 the desk, 2 the model, 3 Integer. G: class numbers, array classes (0 Object[], 1 DaryArrayHeap[], 2 Integer[], 3 int[]), addresses (0 the Integer cache, 1 DOWN, k + 2 the cache's k-th box) -/
abbrev vwCl : List vw_C := [(RX3, TX3, 5), (RX0, TX0, 2), (RX4, TX4, 3), (RJ6, TJ6, 1)]
abbrev gG : Type := va_G × (Nat → ClassId) × (Nat → Nat)
abbrev tyL (G : gG) : List (ClassId × FieldType) := [(G.2.1 0, .object "java/lang/Object"), (G.2.1 1, .object "DaryArrayHeap"), (G.2.1 2, .object "java/lang/Integer"), (G.2.1 3, .int)]
abbrev qA (n : Nat) (f : Nat → Option Nat) : vp_A := (n, .inr (.inr (.inr (.inr f))))
abbrev iA (n : Nat) (f : Nat → Int32) : vp_A := (n, .inl f)
theorem va_P1 {D : va_G} {cl : List vw_C} {q : Nat × va_E} {H : Heap} (h : va_at D cl q H) : va_P D cl [q] H := by
  intro k x hk
  have hz : k < 1 := (List.getElem?_eq_some_iff.mp hk).1
  rw [show k = 0 by omega] at hk
  cases hk
  exact h
theorem cls_ne {s : State} {a b : String} {c : ClassId} (ha : s.vm.findClass a = some c) (hb : s.vm.findClass b = some c) : a = b := by
  obtain ⟨k1, h1, n1⟩ := Vm.findClass_spec ha
  obtain ⟨k2, h2, n2⟩ := Vm.findClass_spec hb
  cases h1.symm.trans h2
  exact n1.symm.trans n2
theorem vp_cell_cls (cA : ClassId) (a : vp_A) : (vp_cell cA a).cls = cA := by
  obtain ⟨n, f | f | f | f | f⟩ := a <;> rfl
/-- the cell y is an Integer with the int v -/
def bx (G : gG) (H : Heap) (y : Nat) (v : Int32) : Prop := va_at G.1 vwCl (y, .inr (3, [.int v])) H
theorem bx.kept {G : gG} {H H1 : Heap} {y : Nat} {v : Int32} (h : bx G H y v) (hq : H1[y]? = H[y]?) : bx G H1 y v := va_at.kept h hq
theorem bx.lt {G : gG} {H : Heap} {y : Nat} {v : Int32} (h : bx G H y v) : y < H.size := va_at.lt h
theorem bx.recv {G : gG} {H : Heap} {y : Nat} {v : Int32} {s : State} {tys : List (ClassId × FieldType)} (hK : va_K G.1 vwCl tys s) (h : bx G H y v) : ∃ cell : Cell, H[y]? = some cell ∧ cell.vm.isStatics = false ∧ s.vm.findClass "java/lang/Integer" = some cell.cls :=
  va_recv hK (va_P1 h) (ci := 3) (q0 := 0) (q := (RJ6, TJ6, 1)) rfl rfl
/-- a cell that is no Integer -/
def notI (G : gG) (q : Nat × va_E) : Prop := match q.2 with
  | .inl a => ∃ j : Nat, j < 4 ∧ a.1 = G.2.1 j
  | .inr o => o.1 < 3
theorem tyL_kind {G : gG} {s : State} (hK : va_K G.1 vwCl (tyL G) s) {j : Nat} (hj : j < 4) : ∃ k : Class, s.vm.classes[G.2.1 j]? = some k ∧ ∃ comp ty, k.kind = .array comp ty := by
  have h : ∃ ty, ArrOfT s (G.2.1 j) ty := by
    match j, hj with
    | 0, _ => exact ⟨_, (hK.2 0 _ rfl).1⟩
    | 1, _ => exact ⟨_, (hK.2 1 _ rfl).1⟩
    | 2, _ => exact ⟨_, (hK.2 2 _ rfl).1⟩
    | 3, _ => exact ⟨_, (hK.2 3 _ rfl).1⟩
  obtain ⟨ty, h⟩ := h
  obtain ⟨-, k, hk, comp, hkind⟩ := h 0 (fun _ => .null)
  exact ⟨k, hk, comp, ty, hkind⟩
theorem bx.ne {G : gG} {H : Heap} {y : Nat} {v : Int32} {s : State} (hK : va_K G.1 vwCl (tyL G) s) (h : bx G H y v) {q : Nat × va_E} (hq : va_at G.1 vwCl q H) (hn : notI G q) : y ≠ q.1 := by
  intro e
  obtain ⟨a, el⟩ := q
  have e : y = a := e
  subst e
  obtain ⟨r, hr, cell, c1, c2, c3, -⟩ := h
  obtain ⟨hf3, kI, hkI, hkind⟩ := (hK.1 3 (RJ6, TJ6, 1) rfl).2
  cases el with
  | inl x =>
    obtain ⟨j, hj, ej⟩ := hn
    have ej : x.1 = G.2.1 j := ej
    have hq : H[y]? = some (vp_cell x.1 x.2) := hq
    have e1 : cell = vp_cell x.1 x.2 := Option.some.inj (c1.symm.trans hq)
    have e2 : G.1.1 3 = G.2.1 j := by
      have c2 : cell.cls = G.1.1 3 := c2
      rw [← c2, e1, vp_cell_cls, ej]
    obtain ⟨k, hk, comp, ty, hk2⟩ := tyL_kind hK hj
    have hkI : s.vm.classes[G.1.1 3]? = some kI := hkI
    rw [e2] at hkI
    cases hkI.symm.trans hk
    rw [hkind] at hk2
    cases hk2
  | inr o =>
    have hn : o.1 < 3 := hn
    obtain ⟨r2, hr2, cell2, d1, d2, -⟩ := hq
    have e1 : cell = cell2 := Option.some.inj (c1.symm.trans d1)
    have hf2 := (hK.1 o.1 r2 hr2).2.1
    have e2 : G.1.1 3 = G.1.1 o.1 := by
      have c2 : cell.cls = G.1.1 3 := c2
      have d2 : cell2.cls = G.1.1 o.1 := d2
      rw [← c2, ← d2, e1]
    rw [← e2] at hf2
    have hnm : r2.1 = RJ6 := cls_ne hf2 hf3
    obtain ⟨ci, fs⟩ := o
    have hr2 : vwCl[ci]? = some r2 := hr2
    have hn : ci < 3 := hn
    match ci, hn, hr2 with
    | 0, _, hr2 => cases hr2; exact absurd hnm (by decide +kernel)
    | 1, _, hr2 => cases hr2; exact absurd hnm (by decide +kernel)
    | 2, _, hr2 => cases hr2; exact absurd hnm (by decide +kernel)
theorem bx.out {G : gG} {H : Heap} {y : Nat} {v : Int32} {s : State} (hK : va_K G.1 vwCl (tyL G) s) (h : bx G H y v) {wc : va_W} (hP : va_P G.1 vwCl wc H) (hn : ∀ q ∈ wc, notI G q) : ¬ va_A wc H.size y := by
  intro z
  rcases z with ⟨k, e, hk⟩ | z
  · exact h.ne hK (hP k _ hk) (hn _ (List.mem_of_getElem? hk)) rfl
  · exact absurd h.lt (Nat.not_lt.mpr z)
/-- all Integers stay -/
def bK (G : gG) (H H1 : Heap) : Prop := ∀ (y : Nat) (v : Int32), bx G H y v → bx G H1 y v
theorem bK.rf {G : gG} {H : Heap} : bK G H H := fun _ _ h => h
theorem bK.tr {G : gG} {H H1 H2 : Heap} (h : bK G H H1) (h2 : bK G H1 H2) : bK G H H2 := fun y v z => h2 y v (h y v z)
theorem bK.of {G : gG} {H H1 : Heap} {s : State} (hK : va_K G.1 vwCl (tyL G) s) {wc : va_W} (hP : va_P G.1 vwCl wc H) (hn : ∀ q ∈ wc, notI G q) (hk : ∀ q : Nat, q < H.size → ¬ va_A wc H.size q → H1[q]? = H[q]?) : bK G H H1 := fun y v h => h.kept (hk y h.lt (h.out hK hP hn))
theorem bK.one {G : gG} {H H1 : Heap} {s : State} (hK : va_K G.1 vwCl (tyL G) s) {q : Nat × va_E} (hq : va_at G.1 vwCl q H) (hn : notI G q) (hk : ∀ x : Nat, x ≠ q.1 → H1[x]? = H[x]?) : bK G H H1 := fun y v h => h.kept (hk y (h.ne hK hq hn))
theorem nI_nil {G : gG} : ∀ q ∈ ([] : va_W), notI G q := fun _ h => absurd h List.not_mem_nil
theorem nI_o {G : gG} {a ci : Nat} {fs : List Value} {l : va_W} (hc : ci < 3) (h : ∀ q ∈ l, notI G q) : ∀ q ∈ ((a, .inr (ci, fs)) :: l : va_W), notI G q := List.forall_mem_cons.mpr ⟨hc, h⟩
theorem nI_a {G : gG} {a : Nat} (j : Nat) {x : vp_A} {l : va_W} (hj : j < 4) (h : ∀ q ∈ l, notI G q) : ∀ q ∈ ((a, .inl (G.2.1 j, x)) :: l : va_W), notI G q := List.forall_mem_cons.mpr ⟨⟨j, hj, rfl⟩, h⟩
theorem nI_ap {G : gG} {w1 w2 : va_W} (h1 : ∀ q ∈ w1, notI G q) (h2 : ∀ q ∈ w2, notI G q) : ∀ q ∈ w1 ++ w2, notI G q := fun q h => (List.mem_append.mp h).elim (h1 q) (h2 q)
/-- the places 1..n of f hold Integers with the ints v -/
def bxs (G : gG) (H : Heap) (f : Nat → Option Nat) (n : Nat) (v : Nat → Int32) : Prop := ∀ j : Nat, 1 ≤ j → j ≤ n → ∃ y : Nat, f j = some y ∧ bx G H y (v j)
theorem bxs.kept {G : gG} {H H1 : Heap} {f : Nat → Option Nat} {n : Nat} {v : Nat → Int32} (h : bxs G H f n v) (hb : bK G H H1) : bxs G H1 f n v := fun j h1 h2 => by
  obtain ⟨y, e, hy⟩ := h j h1 h2
  exact ⟨y, e, hb y _ hy⟩
theorem bxs.up {G : gG} {H : Heap} {f : Nat → Option Nat} {n k y : Nat} {x : Int32} {v : Nat → Int32} (h : bxs G H f n v) (hy : bx G H y x) : bxs G H (va_up f k (some y)) n (va_up v k x) := fun j h1 h2 => by
  by_cases hj : j = k
  · subst hj
    rw [va_up_self, va_up_self]
    exact ⟨y, rfl, hy⟩
  · rw [va_up_ne _ _ hj, va_up_ne _ _ hj]
    exact h j h1 h2
theorem bxs.le {G : gG} {H : Heap} {f : Nat → Option Nat} {n n' : Nat} {v : Nat → Int32} (h : bxs G H f n v) (hn : n' ≤ n) : bxs G H f n' v := fun j h1 h2 => h j h1 (Nat.le_trans h2 hn)
theorem bxs.snoc {G : gG} {H : Heap} {f : Nat → Option Nat} {n y : Nat} {x : Int32} {v : Nat → Int32} (h : bxs G H f n v) (hy : bx G H y x) : bxs G H (va_up f (n + 1) (some y)) (n + 1) (va_up v (n + 1) x) := fun j h1 h2 => by
  by_cases hj : j = n + 1
  · subst hj
    rw [va_up_self, va_up_self]
    exact ⟨y, rfl, hy⟩
  · rw [va_up_ne _ _ hj, va_up_ne _ _ hj]
    exact h j h1 (by omega)
-- words of the tables that ride in no list
theorem Nw_cast {C T : String} {u U : State} (hvm : u.vm.Alike U.vm) (h : va_Nw (.castable C T) u) : va_Nw (.castable C T) U := va_tabs rfl (rfl : (u.setVm U.vm).vm = U.vm) (by rw [Cond.castable_setVm hvm]; exact h)
theorem Nw_decl {x : MethodName} {u U : State} (hvm : u.vm.Alike U.vm) (h : va_Nw (.declares x) u) : va_Nw (.declares x) U := va_tabs rfl (rfl : (u.setVm U.vm).vm = U.vm) (by rw [Cond.declares_setVm hvm]; exact h)
def yCmp : MethodName := ⟨"java/util/Comparator", "compare", "(Ljava/lang/Object;Ljava/lang/Object;)I"⟩
def yAW (n : String) : MethodName := ⟨"AbstractArrayWeakHeap", n, "(I)V"⟩
def gN (U : State) : Prop := va_Nw (.castable "java/lang/Integer" "java/lang/Comparable") U ∧ va_Nw (.castable "java/lang/Integer" "java/lang/Object") U ∧ va_Nw (.declares (yAW "initCapacity")) U ∧ va_Nw (.declares (yAW "ensureCapacity")) U ∧ va_Nw (.declares (yAW "fixup")) U ∧ va_Nw (.declares (yAW "fixupWithComparator")) U ∧ va_Nw (.declares (yAW "fixdown")) U ∧ va_Nw (.declares (yAW "fixdownWithComparator")) U ∧ va_AO "java/lang/Object" U ∧ va_AO "DaryArrayHeap" U ∧ va_AO "java/lang/Integer" U ∧ va_Fw "DaryArrayHeapDesk$Down" yCmp yX5_compare U
theorem gN.moved {u U : State} (hvm : u.vm.Alike U.vm) (h : gN u) : gN U := by
  obtain ⟨h1, h2, h3, h4, h5, h6, h7, h8, h9, h10, h11, h12⟩ := h
  exact ⟨Nw_cast hvm h1, Nw_cast hvm h2, Nw_decl hvm h3, Nw_decl hvm h4, Nw_decl hvm h5, Nw_decl hvm h6, Nw_decl hvm h7, Nw_decl hvm h8, h9.moved hvm, h10.moved hvm, h11.moved hvm, h12.moved (by decide +kernel) hvm⟩
theorem gN.toC {U : State} (h : gN U) : va_Nw (.castable "java/lang/Integer" "java/lang/Comparable") U := h.1
theorem gN.toO {U : State} (h : gN U) : va_Nw (.castable "java/lang/Integer" "java/lang/Object") U := h.2.1
theorem gN.dInit {U : State} (h : gN U) : va_Nw (.declares (yAW "initCapacity")) U := h.2.2.1
theorem gN.dEns {U : State} (h : gN U) : va_Nw (.declares (yAW "ensureCapacity")) U := h.2.2.2.1
theorem gN.dUp {U : State} (h : gN U) : va_Nw (.declares (yAW "fixup")) U := h.2.2.2.2.1
theorem gN.dUpC {U : State} (h : gN U) : va_Nw (.declares (yAW "fixupWithComparator")) U := h.2.2.2.2.2.1
theorem gN.dDn {U : State} (h : gN U) : va_Nw (.declares (yAW "fixdown")) U := h.2.2.2.2.2.2.1
theorem gN.dDnC {U : State} (h : gN U) : va_Nw (.declares (yAW "fixdownWithComparator")) U := h.2.2.2.2.2.2.2.1
theorem gN.aoO {U : State} (h : gN U) : va_AO "java/lang/Object" U := h.2.2.2.2.2.2.2.2.1
theorem gN.aoH {U : State} (h : gN U) : va_AO "DaryArrayHeap" U := h.2.2.2.2.2.2.2.2.2.1
theorem gN.aoI {U : State} (h : gN U) : va_AO "java/lang/Integer" U := h.2.2.2.2.2.2.2.2.2.2.1
theorem gN.fw {U : State} (h : gN U) : va_Fw "DaryArrayHeapDesk$Down" yCmp yX5_compare U := h.2.2.2.2.2.2.2.2.2.2.2
def gK (G : gG) (U : State) : Prop := va_K G.1 vwCl (tyL G) U ∧ gN U
/-- the statics, and the cached boxes: nobody writes them -/
def gZ (G : gG) (A : Nat → Prop) (U : State) (H : Heap) : Prop := va_Z "java/lang/Integer$IntegerCache" "high" "I" (.int 127) A U H ∧ va_Z "java/lang/Integer$IntegerCache" "cache" "[Ljava/lang/Integer;" (.ref (G.2.2 0)) A U H ∧ va_T (.object "java/lang/Integer") (G.2.2 0) 256 (fun k => .ref (G.2.2 (k + 2))) A U H ∧ va_Z "DaryArrayHeapDesk" "DOWN" "LDaryArrayHeapDesk$Down;" (.ref (G.2.2 1)) A U H ∧ va_O "DaryArrayHeapDesk$Down" (G.2.2 1) A U H ∧ ∀ k : Nat, k < 256 → bx G H (G.2.2 (k + 2)) (vb_c k) ∧ ¬ A (G.2.2 (k + 2))
def gx (G : gG) (A : Nat → Prop) (U : State) (H : Heap) : Prop := gK G U ∧ gZ G A U H
theorem gx.K {G : gG} {A : Nat → Prop} {U : State} {H : Heap} (h : gx G A U H) : va_K G.1 vwCl (tyL G) U := h.1.1
theorem gx.N {G : gG} {A : Nat → Prop} {U : State} {H : Heap} (h : gx G A U H) : gN U := h.1.2
theorem gx.moved {G : gG} {A : Nat → Prop} {u U : State} {H : Heap} (hvm : u.vm.Alike U.vm) (h : gx G A u H) : gx G A U H := by
  obtain ⟨⟨k1, k2⟩, z1, z2, z3, z4, z5, z6⟩ := h
  exact ⟨⟨k1.moved hvm, k2.moved hvm⟩, z1.moved hvm, z2.moved hvm, z3.moved hvm, z4.moved hvm, z5.moved hvm, z6⟩
theorem gx.kn {G : gG} {A B : Nat → Prop} {U : State} {H H1 : Heap} (h : gx G A U H) (hq : ∀ a : Nat, a < H.size → ¬ A a → H1[a]? = H[a]?) (hF : ∀ q, B q → A q) : gx G B U H1 := by
  obtain ⟨k1, z1, z2, z3, z4, z5, z6⟩ := h
  exact ⟨k1, (z1.kept hq).narrow hF, (z2.kept hq).narrow hF, (z3.kept hq).narrow hF, (z4.kept hq).narrow hF, (z5.kept hq).narrow hF, fun k hk => ⟨(z6 k hk).1.kept (hq _ (z6 k hk).1.lt (z6 k hk).2), fun z => (z6 k hk).2 (hF _ z)⟩⟩
/-- what a callee is given at the heap H -/
theorem gx.sub {G : gG} {A B : Nat → Prop} {s : State} {H : Heap} {locs : List Loc} (h : gx G A s s.heap) (hS : va_S A s.heap H locs) (hF : ∀ q, B q → A q) : gx G B s H := h.kn hS.2.1 hF
theorem gx.ro {G : gG} {A : Nat → Prop} {s : State} {H : Heap} {locs : List Loc} (h : gx G A s s.heap) (hS : va_S A s.heap H locs) : gx G (fun _ => False) s H := h.kn hS.2.1 (fun _ z => z.elim)
/-- a contract's start: the heap is H0 -/
def PcG (G : gG) (av : List Value) (H0 : Heap) (A : Nat → Prop) : Array Value → State → Prop := va_Pc av (fun U => U.heap = H0 ∧ gx G A U H0)
theorem PcG.blind {G : gG} {av : List Value} {H0 : Heap} {A : Nat → Prop} : FrameBlind (PcG G av H0 A) := fun a U g mk q => ⟨q.1, q.2.1, gx.moved (u := U) (U := U.calling g mk a) (Vm.Alike.refl U.vm) q.2.2⟩
theorem PcG.v {G : gG} {s : State} {H : Heap} {C : String} {b : Addr} {As : List Value} {A : Nat → Prop} (hr : ∃ cellB : Cell, H[b]? = some cellB ∧ cellB.vm.isStatics = false ∧ s.vm.findClass C = some cellB.cls) (h : gx G A s H) : PreV s H C b (PcG G (.ref b :: As) H A) As := ⟨PcG.blind, hr, fun U hU hW => ⟨rfl, hU, h.moved hW.alike⟩⟩
theorem PcG.s {G : gG} {s : State} {H : Heap} {As : List Value} {A : Nat → Prop} (h : gx G A s H) : PreS s H (PcG G As H A) As := ⟨PcG.blind, fun U hU hW => ⟨rfl, hU, h.moved hW.alike⟩⟩
-- calls: the words
theorem lw_U {own : String} {idx : Nat} {C owner : String} {x y : MethodName} {b : ByteArray} {L : Nat} {r : Option FieldType} (h1 : Cond.methodLink own idx x ∈ lw_all) (h2 : Cond.sameMethod x.cls owner x.name x.desc ∈ lw_all) (h3 : Cond.selects C x y ∈ lw_all) (h4 : Cond.instanceMethod y ∈ lw_all) (h5 : Cond.initialized y.cls ∈ lw_all) (h6 : Cond.code y b L r ∈ lw_all) : GoodIn lw_all (va_wsU own idx C owner x y (ws_ y b L r)) := by
  refine lw_app ?_ (lw_meth h6)
  intro w hw
  simp only [List.mem_cons, List.not_mem_nil, or_false] at hw
  rcases hw with e | e | e | e | e
  · rw [e]; exact h1
  · rw [e]; exact h2
  · rw [e]; exact h3
  · rw [e]; exact h4
  · rw [e]; exact h5
theorem lw_F {own : String} {idx : Nat} {C : String} {x y : MethodName} {b : ByteArray} {L : Nat} {r : Option FieldType} (h1 : Cond.methodLink own idx x ∈ lw_all) (h3 : Cond.selects C x y ∈ lw_all) (h4 : Cond.instanceMethod y ∈ lw_all) (h5 : Cond.initialized y.cls ∈ lw_all) (h6 : Cond.code y b L r ∈ lw_all) : GoodIn lw_all (va_wsF own idx C x y (ws_ y b L r)) := by
  refine lw_app ?_ (lw_meth h6)
  intro w hw
  simp only [List.mem_cons, List.not_mem_nil, or_false] at hw
  rcases hw with e | e | e | e
  · rw [e]; exact h1
  · rw [e]; exact h3
  · rw [e]; exact h4
  · rw [e]; exact h5
section BW
variable {p : Program} {l : Launch} {e : Env} {R : Room} {s : State} {m : MethodId} {args : Array Value} {below : List Frame} {meth : Method} {c : Code} {H : Heap} {locs : List Loc} {cells slots : Nat} {Q : State → Prop}
variable {cc : ByteArray} {pc : Nat} {ls : Array Slot} {rest : List Value} {D : va_G} {cl : List vw_C} {A : Nat → Prop} {a : Nat} {tys : List (ClassId × FieldType)} {ws : va_W} {H0 : Heap}
/-- the int on top in another form -/
theorem lv_tn {x : Int32} (y : Int32) (h : x = y) (k : W p l e R s m args below meth c H locs cells slots Q (F0 m pc ls (.int y :: rest))) : W p l e R s m args below meth c H locs cells slots Q (F0 m pc ls (.int x :: rest)) := by
  rw [h]
  exact k
theorem lv_tv {x : Value} (y : Value) (h : x = y) (k : W p l e R s m args below meth c H locs cells slots Q (F0 m pc ls (y :: rest))) : W p l e R s m args below meth c H locs cells slots Q (F0 m pc ls (x :: rest)) := by
  rw [h]
  exact k
theorem bn_gt (hexec : p.tables.exec = Jvm.exec) (hb : c.code = cc) {off : Int} {tgt a b : Nat} (hdg : decode cc pc = .ok (.if_icmp .gt off, 3)) (ht : (pc : Int) + off = (tgt : Int)) (ha : a < 2 ^ 31) (hbb : b < 2 ^ 31)
    (kt : b < a → W p l e R s m args below meth c H locs cells slots Q (F0 m tgt ls rest)) (kf : a ≤ b → W p l e R s m args below meth c H locs cells slots Q (F0 m (pc + 3) ls rest)) : W p l e R s m args below meth c H locs cells slots Q (F0 m pc ls (.int (nI b) :: .int (nI a) :: rest)) :=
  lv_icmp_gt hexec hb hdg ht (fun q => kt ((nI_ltI hbb ha).mp q)) (fun q => kf (Nat.not_lt.mp fun z => q ((nI_ltI hbb ha).mpr z)))
theorem bn_le (hexec : p.tables.exec = Jvm.exec) (hb : c.code = cc) {off : Int} {tgt a b : Nat} (hdg : decode cc pc = .ok (.if_icmp .le off, 3)) (ht : (pc : Int) + off = (tgt : Int)) (ha : a < 2 ^ 31) (hbb : b < 2 ^ 31)
    (kt : a ≤ b → W p l e R s m args below meth c H locs cells slots Q (F0 m tgt ls rest)) (kf : b < a → W p l e R s m args below meth c H locs cells slots Q (F0 m (pc + 3) ls rest)) : W p l e R s m args below meth c H locs cells slots Q (F0 m pc ls (.int (nI b) :: .int (nI a) :: rest)) :=
  lv_icmp_le hexec hb hdg ht (fun q => kt ((nI_leI ha hbb).mp q)) (fun q => kf (Nat.not_le.mp fun z => q ((nI_leI ha hbb).mpr z)))
theorem bn_lt (hexec : p.tables.exec = Jvm.exec) (hb : c.code = cc) {off : Int} {tgt a b : Nat} (hdg : decode cc pc = .ok (.if_icmp .lt off, 3)) (ht : (pc : Int) + off = (tgt : Int)) (ha : a < 2 ^ 31) (hbb : b < 2 ^ 31)
    (kt : a < b → W p l e R s m args below meth c H locs cells slots Q (F0 m tgt ls rest)) (kf : b ≤ a → W p l e R s m args below meth c H locs cells slots Q (F0 m (pc + 3) ls rest)) : W p l e R s m args below meth c H locs cells slots Q (F0 m pc ls (.int (nI b) :: .int (nI a) :: rest)) :=
  lv_icmp_lt hexec hb hdg ht (fun q => kt ((nI_ltI ha hbb).mp q)) (fun q => kf (Nat.not_lt.mp fun z => q ((nI_ltI ha hbb).mpr z)))
theorem bn_ge (hexec : p.tables.exec = Jvm.exec) (hb : c.code = cc) {off : Int} {tgt a b : Nat} (hdg : decode cc pc = .ok (.if_icmp .ge off, 3)) (ht : (pc : Int) + off = (tgt : Int)) (ha : a < 2 ^ 31) (hbb : b < 2 ^ 31)
    (kt : b ≤ a → W p l e R s m args below meth c H locs cells slots Q (F0 m tgt ls rest)) (kf : a < b → W p l e R s m args below meth c H locs cells slots Q (F0 m (pc + 3) ls rest)) : W p l e R s m args below meth c H locs cells slots Q (F0 m pc ls (.int (nI b) :: .int (nI a) :: rest)) :=
  lv_icmp_ge hexec hb hdg ht (fun q => kt ((nI_leI hbb ha).mp q)) (fun q => kf (Nat.not_le.mp fun z => q ((nI_leI hbb ha).mpr z)))
theorem bn_ne (hexec : p.tables.exec = Jvm.exec) (hb : c.code = cc) {off : Int} {tgt a b : Nat} (hdg : decode cc pc = .ok (.if_icmp .ne off, 3)) (ht : (pc : Int) + off = (tgt : Int)) (ha : a < 2 ^ 31) (hbb : b < 2 ^ 31)
    (kt : a ≠ b → W p l e R s m args below meth c H locs cells slots Q (F0 m tgt ls rest)) (kf : a = b → W p l e R s m args below meth c H locs cells slots Q (F0 m (pc + 3) ls rest)) : W p l e R s m args below meth c H locs cells slots Q (F0 m pc ls (.int (nI b) :: .int (nI a) :: rest)) :=
  lv_icmp_ne hexec hb hdg ht (fun q => kt (fun z => q ((nI_eq ha hbb).mpr z))) (fun q => kf ((nI_eq ha hbb).mp q))
theorem bn_eq (hexec : p.tables.exec = Jvm.exec) (hb : c.code = cc) {off : Int} {tgt a b : Nat} (hdg : decode cc pc = .ok (.if_icmp .eq off, 3)) (ht : (pc : Int) + off = (tgt : Int)) (ha : a < 2 ^ 31) (hbb : b < 2 ^ 31)
    (kt : a = b → W p l e R s m args below meth c H locs cells slots Q (F0 m tgt ls rest)) (kf : a ≠ b → W p l e R s m args below meth c H locs cells slots Q (F0 m (pc + 3) ls rest)) : W p l e R s m args below meth c H locs cells slots Q (F0 m pc ls (.int (nI b) :: .int (nI a) :: rest)) :=
  lv_icmp_eq hexec hb hdg ht (fun q => kt ((nI_eq ha hbb).mp q)) (fun q => kf (fun z => q ((nI_eq ha hbb).mpr z)))
theorem bz_ne (hexec : p.tables.exec = Jvm.exec) (hb : c.code = cc) {off : Int} {tgt a : Nat} (hdg : decode cc pc = .ok (.ifCond .ne off, 3)) (ht : (pc : Int) + off = (tgt : Int)) (ha : a < 2 ^ 31)
    (kt : a ≠ 0 → W p l e R s m args below meth c H locs cells slots Q (F0 m tgt ls rest)) (kf : a = 0 → W p l e R s m args below meth c H locs cells slots Q (F0 m (pc + 3) ls rest)) : W p l e R s m args below meth c H locs cells slots Q (F0 m pc ls (.int (nI a) :: rest)) :=
  lv_if_ne hexec hb hdg ht (fun q => kt (fun z => q (by rw [z]; exact nI_0))) (fun q => kf ((nI_eq ha (by decide)).mp (q.trans nI_0.symm)))
theorem bz_le (hexec : p.tables.exec = Jvm.exec) (hb : c.code = cc) {off : Int} {tgt a : Nat} (hdg : decode cc pc = .ok (.ifCond .le off, 3)) (ht : (pc : Int) + off = (tgt : Int)) (ha : a < 2 ^ 31)
    (kt : a = 0 → W p l e R s m args below meth c H locs cells slots Q (F0 m tgt ls rest)) (kf : 0 < a → W p l e R s m args below meth c H locs cells slots Q (F0 m (pc + 3) ls rest)) : W p l e R s m args below meth c H locs cells slots Q (F0 m pc ls (.int (nI a) :: rest)) :=
  lv_if_le hexec hb hdg ht (fun q => kt (Nat.le_zero.mp ((nI_leI ha (by decide)).mp (by rw [nI_0]; exact q)))) (fun q => kf (Nat.pos_of_ne_zero fun z => q (by rw [z, nI_0]; exact Int32.le_refl 0)))
/-- an array of references is read at a place that holds one -/
theorem qld (hexec : p.tables.exec = Jvm.exec) (hb : c.code = cc) (hK : va_K D cl tys s) (hP : va_P D cl ws H) (q0 t0 : Nat) {cA : ClassId} {C : String} {n : Nat} {f : Nat → Option Nat} (ha : ws[q0]? = some (a, .inl (cA, qA n f))) (ht : tys[t0]? = some (cA, .object C)) {i y : Nat} (hi : i < n) (hn : n < 2 ^ 31) (hf : f i = some y) (hdg : decode cc pc = .ok (.aaload, 1))
    (kk : W p l e R s m args below meth c H locs cells slots Q (F0 m (pc + 1) ls (.ref y :: rest))) : W p l e R s m args below meth c H locs cells slots Q (F0 m pc ls (.int (nI i) :: .ref a :: rest)) := by
  refine va_aldq hexec hb hK hP q0 t0 ha ht (vp_in_nI hi hn) hdg ?_
  rw [nI_clamp (Nat.lt_trans hi hn), hf]
  exact kk
/-- .. and written -/
theorem qst (hexec : p.tables.exec = Jvm.exec) (hb : c.code = cc) (hK : va_K D cl tys s) (hP : va_P D cl ws H) (hD : va_D A ws) (hS : va_S A H0 H locs) (q0 t0 : Nat) {E C : String} {cA : ClassId} {n v : Nat} {f : Nat → Option Nat} (ha : ws[q0]? = some (a, .inl (cA, qA n f))) (ht : tys[t0]? = some (cA, .object E)) (hr : ∃ cellV : Cell, H[v]? = some cellV ∧ cellV.vm.isStatics = false ∧ s.vm.findClass C = some cellV.cls) (hasg : ∀ comp c0 : ClassId, s.vm.findClass E = some comp → s.vm.findClass C = some c0 → s.vm.assignable c0 comp = true) {i : Nat} (hi : i < n) (hn : n < 2 ^ 31) (hdg : decode cc pc = .ok (.aastore, 1))
    (kk : ∀ (H1 : Heap) (locs1 : List Loc), va_P D cl (ws.set q0 (a, .inl (cA, qA n (va_up f i (some v))))) H1 → va_D A (ws.set q0 (a, .inl (cA, qA n (va_up f i (some v))))) → va_S A H0 H1 locs1 → (∀ x : Nat, x ≠ a → H1[x]? = H[x]?) → W p l e R s m args below meth c H1 locs1 cells slots Q (F0 m (pc + 1) ls rest)) : W p l e R s m args below meth c H locs cells slots Q (F0 m pc ls (.ref v :: .int (nI i) :: .ref a :: rest)) := by
  have hc : (nI i).toNatClampNeg = i := nI_clamp (Nat.lt_trans hi hn)
  have hlt : (nI i).toNatClampNeg < n := by rw [hc]; exact hi
  have h0 : ¬ nI i < 0 := nI_pos (Nat.lt_trans hi hn)
  obtain ⟨cellV, g1, g3, g2⟩ := hr
  obtain ⟨kA, comp, k1, k2, k3, -⟩ := (hK.2 t0 _ ht).2
  obtain ⟨kE, hkE, -⟩ := Vm.findClass_spec k3
  obtain ⟨kC, hkC, -⟩ := Vm.findClass_spec g2
  refine W.aast hexec hb (hP q0 _ ha) (fun q h => by cases h) (fun h => by cases h) k1 k2 rfl hkE ⟨h0, by show _ < (arrV _ _ _).slots.size; rw [arrV_size]; exact hlt⟩ g1 (fun q h => by rw [h] at g3; cases g3) hkC (hasg _ _ k3 g2) rfl rfl hdg fun H1 e z oq => ?_
  refine kk H1 _ (hP.set hD ha ?_ oq) (hD.set ha) (hS.put z oq (hD.2 q0 _ ha)) oq
  show H1[a]? = some (vp_cell _ _)
  rw [e, hc]
  rw [vp_cell_q, vp_cell_q, arrV_store]
  congr 2
  funext q
  by_cases hq : q = i
  · subst hq
    simp [updV, va_up, va_rf]
  · simp [updV, va_up, hq]
/-- .. with null -/
theorem qstN (hexec : p.tables.exec = Jvm.exec) (hb : c.code = cc) (hK : va_K D cl tys s) (hP : va_P D cl ws H) (hD : va_D A ws) (hS : va_S A H0 H locs) (q0 t0 : Nat) {cA : ClassId} {C : String} {n : Nat} {f : Nat → Option Nat} (ha : ws[q0]? = some (a, .inl (cA, qA n f))) (ht : tys[t0]? = some (cA, .object C)) {i : Nat} (hi : i < n) (hn : n < 2 ^ 31) (hdg : decode cc pc = .ok (.aastore, 1))
    (kk : ∀ (H1 : Heap) (locs1 : List Loc), va_P D cl (ws.set q0 (a, .inl (cA, qA n (va_up f i none)))) H1 → va_D A (ws.set q0 (a, .inl (cA, qA n (va_up f i none)))) → va_S A H0 H1 locs1 → W p l e R s m args below meth c H1 locs1 cells slots Q (F0 m (pc + 1) ls rest)) : W p l e R s m args below meth c H locs cells slots Q (F0 m pc ls (.null :: .int (nI i) :: .ref a :: rest)) := by
  have hc : (nI i).toNatClampNeg = i := nI_clamp (Nat.lt_trans hi hn)
  refine va_astqN hexec hb hK hP hD hS q0 t0 ha ht (vp_in_nI hi hn) hdg (fun H1 locs1 h1 h2 h3 => ?_)
  rw [hc] at h1 h2
  exact kk H1 locs1 h1 h2 h3
/-- a new array of references, its class known -/
theorem nwq (hexec : p.tables.exec = Jvm.exec) (hb : c.code = cc) {own C : String} {index : Nat} (hown : s.vm.findClass own = some m.cls) (hclink : (Cond.classLink own index C).before args s = true) (hover : va_AO C s) (hK : va_K D cl tys s) (t0 : Nat) {cO : ClassId} (ht : tys[t0]? = some (cO, .object C)) (hP : va_P D cl ws H) (hD : va_D A ws) (hS : va_S A H0 H locs) (hA : ∀ q, H0.size ≤ q → A q)
    {N' : Nat} (hN : N' < 2 ^ 27) (hcells : cells + 1 ≤ R.cells) (hslots : slots + N' ≤ R.slots) (hdg : decode cc pc = .ok (.anewarray index, 3))
    (kk : ∀ (q : Nat) (H1 : Heap), va_P D cl (ws ++ [(q, .inl (cO, qA N' (fun _ => none)))]) H1 → va_D A (ws ++ [(q, .inl (cO, qA N' (fun _ => none)))]) → va_S A H0 H1 locs →
      W p l e R s m args below meth c H1 locs (cells + 1) (slots + N') Q (F0 m (pc + 3) ls (.ref q :: rest))) : W p l e R s m args below meth c H locs cells slots Q (F0 m pc ls (.int (nI N') :: rest)) := by
  refine va_newq hexec hb hown hclink hover hK hP hD hS hA (nI_pos (by omega)) (nI_clamp (by omega)) (by omega) hcells hslots hdg (fun q cA H1 hK1 hP1 hD1 hS1 => ?_)
  have e1 : cA = cO := by
    obtain ⟨-, -, -, -, -, f1⟩ := (hK1.2 tys.length (cA, .object C) (by simp)).2
    obtain ⟨-, -, -, -, -, f2⟩ := (hK.2 t0 _ ht).2
    exact Option.some.inj (f1.symm.trans f2)
  subst e1
  exact kk q H1 hP1 hD1 hS1
/-- a new array of ints, its class known -/
theorem nwi (hexec : p.tables.exec = Jvm.exec) (hb : c.code = cc) (harr : (Cond.arrayClass .int).before args s = true) (hK : va_K D cl tys s) (t0 : Nat) {cO : ClassId} (ht : tys[t0]? = some (cO, .int)) (hP : va_P D cl ws H) (hD : va_D A ws) (hS : va_S A H0 H locs) (hA : ∀ q, H0.size ≤ q → A q)
    {N' : Nat} (hN : N' < 2 ^ 27) (hcells : cells + 1 ≤ R.cells) (hslots : slots + N' ≤ R.slots) (hdg : decode cc pc = .ok (.newarray .int, 2))
    (kk : ∀ (q : Nat) (H1 : Heap), va_P D cl (ws ++ [(q, .inl (cO, iA N' (fun _ => 0)))]) H1 → va_D A (ws ++ [(q, .inl (cO, iA N' (fun _ => 0)))]) → va_S A H0 H1 locs →
      W p l e R s m args below meth c H1 locs (cells + 1) (slots + N') Q (F0 m (pc + 2) ls (.ref q :: rest))) : W p l e R s m args below meth c H locs cells slots Q (F0 m pc ls (.int (nI N') :: rest)) := by
  refine va_newa (atype := .int) (ty := .int) (a0 := iA N' (fun _ => 0)) (N' := N') hexec hb harr rfl hK hP hD hS hA (fun cA => rfl) (nI_pos (by omega)) (nI_clamp (by omega)) (by show N' * 4 ≤ _; omega) hcells hslots hdg (fun q cA H1 hK1 hP1 hD1 hS1 => ?_)
  have e1 : cA = cO := by
    have f1 : s.vm.findClass ("[" ++ (FieldType.int).toString) = some cA := (hK1.2 tys.length (cA, .int) (by simp)).2
    have f2 : s.vm.findClass ("[" ++ (FieldType.int).toString) = some cO := (hK.2 t0 _ ht).2
    exact Option.some.inj (f1.symm.trans f2)
  subst e1
  exact kk q H1 hP1 hD1 hS1
/-- an array of ints, read and written at a place -/
theorem ild (hexec : p.tables.exec = Jvm.exec) (hb : c.code = cc) (hK : va_K D cl tys s) (hP : va_P D cl ws H) (q0 t0 : Nat) {cA : ClassId} {n : Nat} {f : Nat → Int32} (ha : ws[q0]? = some (a, .inl (cA, iA n f))) (ht : tys[t0]? = some (cA, .int)) {i : Nat} (hi : i < n) (hn : n < 2 ^ 31) (hdg : decode cc pc = .ok (.iaload, 1))
    (kk : W p l e R s m args below meth c H locs cells slots Q (F0 m (pc + 1) ls (.int (f i) :: rest))) : W p l e R s m args below meth c H locs cells slots Q (F0 m pc ls (.int (nI i) :: .ref a :: rest)) := by
  refine va_iald hexec hb hK hP q0 t0 ha ht (vp_in_nI hi hn) hdg ?_
  rw [nI_clamp (Nat.lt_trans hi hn)]
  exact kk
theorem ist (hexec : p.tables.exec = Jvm.exec) (hb : c.code = cc) (hK : va_K D cl tys s) (hP : va_P D cl ws H) (hD : va_D A ws) (hS : va_S A H0 H locs) (q0 t0 : Nat) {cA : ClassId} {n : Nat} {f : Nat → Int32} (ha : ws[q0]? = some (a, .inl (cA, iA n f))) (ht : tys[t0]? = some (cA, .int)) {i : Nat} {x : Int32} (hi : i < n) (hn : n < 2 ^ 31) (hdg : decode cc pc = .ok (.iastore, 1))
    (kk : ∀ (H1 : Heap) (locs1 : List Loc), va_P D cl (ws.set q0 (a, .inl (cA, iA n (upd f i x)))) H1 → va_D A (ws.set q0 (a, .inl (cA, iA n (upd f i x)))) → va_S A H0 H1 locs1 → W p l e R s m args below meth c H1 locs1 cells slots Q (F0 m (pc + 1) ls rest)) : W p l e R s m args below meth c H locs cells slots Q (F0 m pc ls (.int x :: .int (nI i) :: .ref a :: rest)) := by
  have hc : (nI i).toNatClampNeg = i := nI_clamp (Nat.lt_trans hi hn)
  refine va_iast hexec hb hK hP hD hS q0 t0 ha ht (vp_in_nI hi hn) hdg (fun H1 locs1 h1 h2 h3 => ?_)
  rw [hc] at h1 h2
  exact kk H1 locs1 h1 h2 h3
/-- the int of an Integer -/
theorem bxget {G : gG} (hexec : p.tables.exec = Jvm.exec) (hb : c.code = cc) {y : Nat} {v : Int32} (hts : ∀ w ∈ lw_all, w.before args s = true) (hown : s.vm.findClass "java/lang/Integer" = some m.cls) (hK : va_K G.1 vwCl tys s) (hy : bx G H y v) (hdg : decode cc pc = .ok (.getfield 205, 3))
    (kk : W p l e R s m args below meth c H locs cells slots Q (F0 m (pc + 3) ls (.int v :: rest))) : W p l e R s m args below meth c H locs cells slots Q (F0 m pc ls (.ref y :: rest)) :=
  va_get (D := G.1) (ci := 3) (v := .int v) (own := RJ6) (C := RJ6) (T := TJ6) (N := 1) hexec hb hts in_J6 hown hK (va_P1 hy) 0 rfl rfl 0 (by decide) (hts _ q214) (fun _ h9 => h9) rfl hdg kk
end BW
/-- two worlds side by side, the first one handed to a callee -/
theorem va_P.left {D : va_G} {cl : List vw_C} {w1 w2 : va_W} {H : Heap} (h : va_P D cl (w1 ++ w2) H) : va_P D cl w1 H := fun k q hk => h k q (by rw [List.getElem?_append_left (List.getElem?_eq_some_iff.mp hk).1]; exact hk)
theorem va_P.right {D : va_G} {cl : List vw_C} {w1 w2 : va_W} {H : Heap} (h : va_P D cl (w1 ++ w2) H) : va_P D cl w2 H := fun k q hk => h (w1.length + k) q (by rw [List.getElem?_append_right (by omega), Nat.add_sub_cancel_left]; exact hk)
theorem va_D.left {A : Nat → Prop} {w1 w2 : va_W} (h : va_D A (w1 ++ w2)) : va_D A w1 := by
  have e : ∀ (k : Nat) (q : Nat × va_E), w1[k]? = some q → (w1 ++ w2)[k]? = some q := fun k q hk => by rw [List.getElem?_append_left (List.getElem?_eq_some_iff.mp hk).1]; exact hk
  exact ⟨fun i j p q hi hj z => h.1 i j p q (e i p hi) (e j q hj) z, fun k q hk => h.2 k q (e k q hk)⟩
theorem va_D.right {A : Nat → Prop} {w1 w2 : va_W} (h : va_D A (w1 ++ w2)) : va_D A w2 := by
  have e : ∀ (k : Nat) (q : Nat × va_E), w2[k]? = some q → (w1 ++ w2)[w1.length + k]? = some q := fun k q hk => by rw [List.getElem?_append_right (by omega), Nat.add_sub_cancel_left]; exact hk
  refine ⟨fun i j p q hi hj z => ?_, fun k q hk => h.2 _ q (e k q hk)⟩
  have := h.1 _ _ p q (e i p hi) (e j q hj) z
  omega
theorem va_D.cross {A : Nat → Prop} {w1 w2 : va_W} (h : va_D A (w1 ++ w2)) {i j : Nat} {p q : Nat × va_E} (hi : w1[i]? = some p) (hj : w2[j]? = some q) : p.1 ≠ q.1 := by
  intro z
  have hl := (List.getElem?_eq_some_iff.mp hi).1
  have := h.1 i (w1.length + j) p q (by rw [List.getElem?_append_left hl]; exact hi) (by rw [List.getElem?_append_right (by omega), Nat.add_sub_cancel_left]; exact hj) z
  omega
theorem freeL {A0 : Nat → Prop} {w1 : va_W} {H0 H : Heap} {locs : List Loc} (hD : va_D A0 w1) (hS : va_S A0 H0 H locs) (hA : ∀ q, H0.size ≤ q → A0 q) : ∀ q, va_A w1 H.size q → A0 q := by
  intro q h
  rcases h with ⟨k, e, h⟩ | h
  · exact hD.2 k _ h
  · exact hA q (Nat.le_trans hS.1 h)
/-- behind a call that had the first world whole -/
theorem joinL {A0 : Nat → Prop} {D : va_G} {cl : List vw_C} {w1 w2 w3 : va_W} {H H1 : Heap} (hP : va_P D cl (w1 ++ w2) H) (hD : va_D A0 (w1 ++ w2)) (hk : ∀ q : Nat, q < H.size → ¬ va_A w1 H.size q → H1[q]? = H[q]?) (hF : ∀ q, va_A w1 H.size q → A0 q) (hP1 : va_P D cl w3 H1) (hD1 : va_D (va_A w1 H.size) w3) : va_P D cl (w3 ++ w2) H1 ∧ va_D A0 (w3 ++ w2) := by
  have apart : ∀ (k : Nat) (q : Nat × va_E), w2[k]? = some q → q.1 < H.size ∧ ¬ va_A w1 H.size q.1 := by
    intro k q hq
    have hl := (hP.right k q hq).lt
    refine ⟨hl, fun h => ?_⟩
    rcases h with ⟨k2, e, h⟩ | h
    · exact hD.cross h hq rfl
    · omega
  refine ⟨va_P.app hP1 (fun k q hq => (hP.right k q hq).kept (hk q.1 (apart k q hq).1 (apart k q hq).2)), va_D.app (hD1.weaken (fun k q _ h => hF q.1 h)) hD.right (fun i j x y hx hy hxy => ?_)⟩
  exact (apart j y hy).2 (by rw [← hxy]; exact hD1.2 i x hx)
theorem swpP {D : va_G} {cl : List vw_C} {a b : va_W} {H : Heap} (h : va_P D cl (a ++ b) H) : va_P D cl (b ++ a) H := va_P.app h.right h.left
theorem swpD {A : Nat → Prop} {a b : va_W} (h : va_D A (a ++ b)) : va_D A (b ++ a) := va_D.app h.right h.left (fun _ _ _ _ hi hj z => h.cross hj hi z.symm)
theorem gx.zHigh {G : gG} {A : Nat → Prop} {U : State} {H : Heap} (h : gx G A U H) : va_Z "java/lang/Integer$IntegerCache" "high" "I" (.int 127) A U H := h.2.1
theorem gx.zCache {G : gG} {A : Nat → Prop} {U : State} {H : Heap} (h : gx G A U H) : va_Z "java/lang/Integer$IntegerCache" "cache" "[Ljava/lang/Integer;" (.ref (G.2.2 0)) A U H := h.2.2.1
theorem gx.zTab {G : gG} {A : Nat → Prop} {U : State} {H : Heap} (h : gx G A U H) : va_T (.object "java/lang/Integer") (G.2.2 0) 256 (fun k => .ref (G.2.2 (k + 2))) A U H := h.2.2.2.1
theorem gx.zDown {G : gG} {A : Nat → Prop} {U : State} {H : Heap} (h : gx G A U H) : va_Z "DaryArrayHeapDesk" "DOWN" "LDaryArrayHeapDesk$Down;" (.ref (G.2.2 1)) A U H := h.2.2.2.2.1
theorem gx.zBox {G : gG} {A : Nat → Prop} {U : State} {H : Heap} (h : gx G A U H) {k : Nat} (hk : k < 256) : bx G H (G.2.2 (k + 2)) (vb_c k) := (h.2.2.2.2.2.2 k hk).1
theorem gx.down {G : gG} {A : Nat → Prop} {s : State} {H : Heap} {locs : List Loc} (h : gx G A s s.heap) (hS : va_S A s.heap H locs) : ∃ cell : Cell, H[G.2.2 1]? = some cell ∧ cell.vm.isStatics = false ∧ s.vm.findClass "DaryArrayHeapDesk$Down" = some cell.cls := va_Orecv h.2.2.2.2.2.1 hS
section RF2
variable {p : Program} {l : Launch} {e : Env} {R : Room} {s : State} {m : MethodId} {args : Array Value} {below : List Frame} {meth : Method} {c : Code} {H : Heap} {locs : List Loc} {cells slots : Nat} {Q : State → Prop}
/-- a call through an interface on a receiver of a class C that stands in the tables (of its kind nothing is asked) -/
theorem runF2 {x y : MethodName} {bytes cc : ByteArray} {maxL nL mc ms n index count : Nat} {ret : Option FieldType} {ws : List Cond} {rm : Room} {Pc : Array Value → State → Prop} {Qc : Array Value → State → Outcome → State → Prop} {free : Addr → Prop} {Ts : List Cond} {own C : String} {b : Addr} {As rest : List Value} {g : JFrame}
    (S : CallFix p m c cc nL s args Ts own) (hM : Met l y ws rm Pc Qc mc ms free) (cw : va_CI R s args own C index x y bytes maxL ret ws rm mc ms n) (hp : PreV s H C b Pc As)
    (hg : g.method = m) (hn : As.length = n) (hsize : g.locals.size = nL) (hstack : g.stack = As.reverse ++ .ref b :: rest) (hW : 2 * g.monitorRoom + (rest.map fun v => v.category).sum ≤ 8) (hdg : decode cc g.pc = .ok (.invokeinterface index count, 5)) (hf : cells + mc ≤ R.cells ∧ slots + ms ≤ R.slots) :
    va_Run5 p l e R s m args below meth c H locs cells slots mc ms g rest (Qc (Value.ref b :: As).toArray) (free) := by
  obtain ⟨-, ⟨cellB, hcB, hoB, hclB⟩, hPc⟩ := id hp
  obtain ⟨kB, hkB, -⟩ := Vm.findClass_spec hclB
  obtain ⟨hrc, hrs, hfr, hlo, hws, hcw⟩ := cw.back
  have hini := cw.init
  have hB0 : Back l R p e below s args y 5 8 (PreOf R mc ms Pc) (PostOf Qc mc ms free) := back_of (bytes := bytes) (maxL := maxL) (ret := ret) hM hp.1 hrc hrs hfr hlo hws hcw (fun a' U hW9 => word_at hW9 (Or.inl (by first | rfl | simp [Cond.onTables, Cond.keeps, Cond.steady])) hini)
  obtain ⟨hx, hb, hml, ho, -⟩ := S
  intro T hT X
  have hcT : T.heap[b]? = some cellB := by rw [hT]; exact hcB
  obtain ⟨v, vm₁, ⟨U', l2, c2, s2⟩, hW₁, X', ⟨g', mk, t, L, e1, e2, hq, h1, hL, h2, h3⟩, st⟩ := va_callIF X hx (C := C) (bytes := bytes) (maxL := maxL) (ret := ret) ho cw.link cw.decl cw.face cw.sel cw.inst cw.pub cw.unh cw.cast cw.code cw.notMH hB0 hcT hoB hclB hkB hg (hsize.trans hml.symm) (argsL := As) (rest := rest) (fun sig h => hn.trans (cw.len sig h)) hstack hW (by rw [hb]; exact hdg) (fun vm₁ hW₁ => ⟨hf.1, hf.2, hPc (T.setVm vm₁) hT hW₁⟩)
  dsimp only [Pt.U, Pt.locs, Pt.cells, Pt.slots] at X' e1 e2 h1 h2 h3 st
  subst h1; subst h2; subst h3
  exact ⟨v, (T.setVm vm₁).calling g' mk (Value.ref b :: As).toArray, t, U', L, hT, X', hL, e1, e2, hq, st⟩
end RF2
end
section
/-! PURE: heap order (ky: the key as the heap sees it, up: least first), and how often a value stands in places 1..n -/
def ky (up : Bool) (x : Int32) : Int := match up with
  | true => x.toInt
  | false => -x.toInt
def pr (d i : Nat) : Nat := (i - 2) / d + 1
theorem ky_inj {up : Bool} {x y : Int32} (h : ky up x = ky up y) : x = y := by
  cases up
  · have h : -x.toInt = -y.toInt := h
    exact Int32.toInt_inj.mp (by omega)
  · exact Int32.toInt_inj.mp h
theorem ky_lt {x y : Int32} : ky true x < ky true y ↔ x < y := Int32.lt_iff_toInt_lt.symm
theorem ky_ltD {x y : Int32} : ky false x < ky false y ↔ y < x := by
  rw [Int32.lt_iff_toInt_lt]
  show -x.toInt < -y.toInt ↔ _
  omega
theorem pr_lt {d i : Nat} (hd : d = 2 ∨ d = 3) (h : 2 ≤ i) : pr d i < i := by
  unfold pr
  rcases hd with rfl | rfl <;> omega
theorem pr_pos (d i : Nat) : 1 ≤ pr d i := Nat.le_add_left _ _
theorem pr_iff {d i k : Nat} (hd : d = 2 ∨ d = 3) (h : 2 ≤ i) (hk : 1 ≤ k) : pr d i = k ↔ d * (k - 1) + 2 ≤ i ∧ i < d * (k - 1) + 2 + d := by
  unfold pr
  rcases hd with rfl | rfl <;> omega
/-- heap order under all parents from k on -/
def ho (up : Bool) (d n k : Nat) (v : Nat → Int32) : Prop := ∀ i : Nat, 2 ≤ i → i ≤ n → k ≤ pr d i → ky up (v (pr d i)) ≤ ky up (v i)
theorem ho_min {up : Bool} {d n : Nat} {v : Nat → Int32} (hd : d = 2 ∨ d = 3) (h : ho up d n 1 v) : ∀ (b i : Nat), i ≤ b → 1 ≤ i → i ≤ n → ky up (v 1) ≤ ky up (v i) := by
  intro b
  induction b with
  | zero => intro i h1 h2; omega
  | succ b ih =>
    intro i h1 h2 h3
    by_cases hi : i = 1
    · rw [hi]; exact Int.le_refl _
    · have hp := pr_lt hd (i := i) (by omega)
      exact Int.le_trans (ih (pr d i) (by omega) (pr_pos d i) (by omega)) (h i (by omega) h3 (pr_pos d i))
theorem va_up_id (v : Nat → Int32) (k : Nat) : va_up v k (v k) = v := by
  funext j
  by_cases hj : j = k
  · rw [hj, va_up_self]
  · rw [va_up_ne _ _ hj]
/-! counts -/
def cnt (v : Nat → Int32) : Nat → Int32 → Nat
  | 0, _ => 0
  | n + 1, x => cnt v n x + (if v (n + 1) = x then 1 else 0)
theorem cnt_congr {v w : Nat → Int32} {n : Nat} {x : Int32} (h : ∀ j : Nat, 1 ≤ j → j ≤ n → v j = w j) : cnt v n x = cnt w n x := by
  induction n with
  | zero => rfl
  | succ n ih =>
    show cnt v n x + (if v (n + 1) = x then 1 else 0) = cnt w n x + (if w (n + 1) = x then 1 else 0)
    rw [ih (fun j h1 h2 => h j h1 (by omega)), h (n + 1) (by omega) (Nat.le_refl _)]
theorem cnt_up {v : Nat → Int32} {n k : Nat} {a : Int32} (x : Int32) (h1 : 1 ≤ k) (h2 : k ≤ n) : cnt (va_up v k a) n x + (if v k = x then 1 else 0) = cnt v n x + (if a = x then 1 else 0) := by
  induction n with
  | zero => omega
  | succ n ih =>
    show cnt (va_up v k a) n x + (if va_up v k a (n + 1) = x then 1 else 0) + _ = cnt v n x + (if v (n + 1) = x then 1 else 0) + _
    by_cases hk : k = n + 1
    · subst hk
      rw [va_up_self, cnt_congr (v := va_up v (n + 1) a) (w := v) (fun j _ h => va_up_ne _ _ (by omega))]
      omega
    · rw [va_up_ne _ _ (Ne.symm hk)]
      have := ih (by omega)
      omega
/-- the hole moves from k to p: what is held stays -/
theorem cnt_mv {u : Nat → Int32} {n k p : Nat} {x : Int32} (z : Int32) (h1 : 1 ≤ k) (h2 : k ≤ n) (h3 : 1 ≤ p) (h4 : p ≤ n) (hne : p ≠ k) : cnt (va_up (va_up u k (u p)) p x) n z = cnt (va_up u k x) n z := by
  have a1 := cnt_up (v := va_up u k (u p)) (k := p) (a := x) z h3 h4
  have a2 := cnt_up (v := u) (k := k) (a := u p) z h1 h2
  have a3 := cnt_up (v := u) (k := k) (a := x) z h1 h2
  rw [va_up_ne _ _ hne] at a1
  omega
theorem cnt_pos {v : Nat → Int32} {n : Nat} {x : Int32} : 0 < cnt v n x ↔ ∃ i : Nat, 1 ≤ i ∧ i ≤ n ∧ v i = x := by
  induction n with
  | zero => exact ⟨fun h => absurd h (Nat.lt_irrefl 0), fun ⟨i, h1, h2, _⟩ => by omega⟩
  | succ n ih =>
    show 0 < cnt v n x + (if v (n + 1) = x then 1 else 0) ↔ _
    by_cases hx : v (n + 1) = x
    · rw [if_pos hx]
      exact ⟨fun _ => ⟨n + 1, by omega, Nat.le_refl _, hx⟩, fun _ => by omega⟩
    · rw [if_neg hx]
      constructor
      · intro h
        obtain ⟨i, h1, h2, h3⟩ := ih.mp h
        exact ⟨i, h1, by omega, h3⟩
      · intro ⟨i, h1, h2, h3⟩
        have hi : i ≠ n + 1 := fun q => hx (q ▸ h3)
        have := ih.mpr ⟨i, h1, by omega, h3⟩
        omega
/-! fixup: w is the array with the key in the hole k -/
def fuI (up : Bool) (d n k : Nat) (w : Nat → Int32) : Prop := (∀ i : Nat, 2 ≤ i → i ≤ n → i ≠ k → ky up (w (pr d i)) ≤ ky up (w i)) ∧ (2 ≤ k → ∀ i : Nat, 2 ≤ i → i ≤ n → pr d i = k → ky up (w (pr d k)) ≤ ky up (w i))
theorem fuI_step {up : Bool} {d n k : Nat} {u : Nat → Int32} {x : Int32} (hd : d = 2 ∨ d = 3) (hk : 1 < k) (hn : k ≤ n) (hlt : ky up x < ky up (u (pr d k))) (h : fuI up d n k (va_up u k x)) : fuI up d n (pr d k) (va_up (va_up u k (u (pr d k))) (pr d k) x) := by
  have hp := pr_lt hd (i := k) (by omega)
  have hp1 := pr_pos d k
  generalize hpe : pr d k = p at *
  have wk : va_up u k x k = x := va_up_self _ _ _
  have wn : ∀ j, j ≠ k → va_up u k x j = u j := fun j hj => va_up_ne _ _ hj
  have vp : va_up (va_up u k (u p)) p x p = x := va_up_self _ _ _
  have vk : va_up (va_up u k (u p)) p x k = u p := by rw [va_up_ne _ _ (by omega), va_up_self]
  have vn : ∀ j, j ≠ p → j ≠ k → va_up (va_up u k (u p)) p x j = u j := fun j h1 h2 => by rw [va_up_ne _ _ h1, va_up_ne _ _ h2]
  obtain ⟨a1, a2⟩ := h
  have b1 : ∀ i : Nat, 2 ≤ i → i ≤ n → i ≠ k → pr d i ≠ k → ky up (u (pr d i)) ≤ ky up (u i) := fun i h1 h2 h3 h4 => by
    have := a1 i h1 h2 h3
    rw [wn _ h4, wn _ h3] at this
    exact this
  refine ⟨fun i h1 h2 h3 => ?_, fun hp2 i h1 h2 h3 => ?_⟩
  · by_cases hik : i = k
    · subst hik
      rw [hpe, vp, vk]
      exact Int.le_of_lt hlt
    · rw [vn i h3 hik]
      by_cases c1 : pr d i = p
      · rw [c1, vp]
        have := b1 i h1 h2 hik (by omega)
        rw [c1] at this
        exact Int.le_trans (Int.le_of_lt hlt) this
      · by_cases c2 : pr d i = k
        · rw [c2, vk]
          have := a2 (by omega) i h1 h2 c2
          rw [hpe, wn p (by omega), wn i hik] at this
          exact this
        · rw [vn _ c1 c2]
          exact b1 i h1 h2 hik c2
  · have hpp := pr_lt hd hp2
    rw [vn (pr d p) (by omega) (by omega)]
    have c0 := b1 p hp2 (by omega) (by omega) (by omega)
    by_cases hik : i = k
    · rw [hik, vk]
      exact c0
    · have hi := pr_lt hd h1
      rw [vn i (by omega) hik]
      have := b1 i h1 h2 hik (by omega)
      rw [h3] at this
      exact Int.le_trans c0 this
theorem fuI_one {up : Bool} {d n : Nat} {w : Nat → Int32} (h : fuI up d n 1 w) : ho up d n 1 w := fun i h1 h2 _ => h.1 i h1 h2 (by omega)
theorem fuI_stop {up : Bool} {d n k : Nat} {u : Nat → Int32} {x : Int32} (hd : d = 2 ∨ d = 3) (hk : 1 < k) (hle : ¬ ky up x < ky up (u (pr d k))) (h : fuI up d n k (va_up u k x)) : ho up d n 1 (va_up u k x) := fun i h1 h2 _ => by
  by_cases hik : i = k
  · subst hik
    rw [va_up_self, va_up_ne _ _ (Nat.ne_of_lt (pr_lt hd h1))]
    exact Int.not_lt.mp hle
  · exact h.1 i h1 h2 hik
theorem fuI_start {up : Bool} {d n : Nat} {v : Nat → Int32} {x : Int32} (hd : d = 2 ∨ d = 3) (h : ho up d n 1 v) : fuI up d (n + 1) (n + 1) (va_up v (n + 1) x) := by
  refine ⟨fun i h1 h2 h3 => ?_, fun _ i h1 h2 h3 => ?_⟩
  · have := pr_lt hd h1
    rw [va_up_ne _ _ (by omega), va_up_ne _ _ h3]
    exact h i h1 (by omega) (pr_pos d i)
  · have := pr_lt hd h1
    omega
/-! fixdown from k0: the hole is at k -/
def fdI (up : Bool) (d n k0 k : Nat) (w : Nat → Int32) : Prop := (∀ i : Nat, 2 ≤ i → i ≤ n → k0 ≤ pr d i → pr d i ≠ k → ky up (w (pr d i)) ≤ ky up (w i)) ∧ (k = k0 ∨ (k0 ≤ pr d k ∧ ∀ i : Nat, 2 ≤ i → i ≤ n → pr d i = k → ky up (w (pr d k)) ≤ ky up (w i))) ∧ k0 ≤ k
theorem fdI_start {up : Bool} {d n k : Nat} {w : Nat → Int32} (h : ho up d n (k + 1) w) : fdI up d n k k w := ⟨fun i h1 h2 h3 h4 => h i h1 h2 (by omega), Or.inl rfl, Nat.le_refl _⟩
theorem fdI_step {up : Bool} {d n k0 k m : Nat} {u : Nat → Int32} {x : Int32} (hd : d = 2 ∨ d = 3) (hk0 : 1 ≤ k0) (hm : 2 ≤ m) (hmn : m ≤ n) (hmk : pr d m = k) (hmin : ∀ j : Nat, 2 ≤ j → j ≤ n → pr d j = k → ky up (u m) ≤ ky up (u j)) (hlt : ky up (u m) < ky up x) (h : fdI up d n k0 k (va_up u k x)) : fdI up d n k0 m (va_up (va_up u k (u m)) m x) := by
  have hp := pr_lt hd hm
  rw [hmk] at hp
  have wk : va_up u k x k = x := va_up_self _ _ _
  have wn : ∀ j, j ≠ k → va_up u k x j = u j := fun j hj => va_up_ne _ _ hj
  have vm : va_up (va_up u k (u m)) m x m = x := va_up_self _ _ _
  have vk : va_up (va_up u k (u m)) m x k = u m := by rw [va_up_ne _ _ (by omega), va_up_self]
  have vn : ∀ j, j ≠ m → j ≠ k → va_up (va_up u k (u m)) m x j = u j := fun j h1 h2 => by rw [va_up_ne _ _ h1, va_up_ne _ _ h2]
  obtain ⟨a1, a2, a3⟩ := h
  refine ⟨fun i h1 h2 h3 h4 => ?_, Or.inr ⟨by omega, fun i h1 h2 h3 => ?_⟩, by omega⟩
  · have hi := pr_lt hd h1
    by_cases c1 : pr d i = k
    · rw [c1, vk]
      by_cases c2 : i = m
      · rw [c2, vm]
        exact Int.le_of_lt hlt
      · rw [vn i c2 (by omega)]
        exact hmin i h1 h2 c1
    · rw [vn _ h4 c1]
      by_cases c3 : i = k
      · subst c3
        rw [vk]
        rcases a2 with a2 | ⟨-, a2⟩
        · omega
        · have := a2 m hm hmn hmk
          rw [wn _ c1, wn m (by omega)] at this
          exact this
      · have c4 : i ≠ m := fun q => c1 (by rw [q]; exact hmk)
        rw [vn i c4 c3]
        have := a1 i h1 h2 h3 c1
        rw [wn _ c1, wn i c3] at this
        exact this
  · have hi := pr_lt hd h1
    rw [hmk, vk, vn i (by omega) (by omega)]
    have := a1 i h1 h2 (by omega) (by omega)
    rw [h3, wn m (by omega), wn i (by omega)] at this
    exact this
theorem fdI_leaf {up : Bool} {d n k0 k : Nat} {w : Nat → Int32} (hd : d = 2 ∨ d = 3) (hk : 1 ≤ k) (hc : n < d * (k - 1) + 2) (h : fdI up d n k0 k w) : ho up d n k0 w := fun i h1 h2 h3 => by
  by_cases c1 : pr d i = k
  · have := ((pr_iff hd h1 hk).mp c1).1
    omega
  · exact h.1 i h1 h2 h3 c1
theorem fdI_stop {up : Bool} {d n k0 k m : Nat} {u : Nat → Int32} {x : Int32} (hd : d = 2 ∨ d = 3) (hmin : ∀ j : Nat, 2 ≤ j → j ≤ n → pr d j = k → ky up (u m) ≤ ky up (u j)) (hle : ¬ ky up (u m) < ky up x) (h : fdI up d n k0 k (va_up u k x)) : ho up d n k0 (va_up u k x) := fun i h1 h2 h3 => by
  by_cases c1 : pr d i = k
  · have hi := pr_lt hd h1
    rw [c1, va_up_self, va_up_ne _ _ (by omega)]
    exact Int.le_trans (Int.not_lt.mp hle) (hmin i h1 h2 c1)
  · exact h.1 i h1 h2 h3 c1
/-! a heap without its least -/
theorem ho_del {up : Bool} {d n : Nat} {v : Nat → Int32} (hd : d = 2 ∨ d = 3) (h : ho up d (n + 1) 1 v) (x : Int32) : ho up d n 2 (va_up v 1 x) := fun i h1 h2 h3 => by
  rw [va_up_ne _ _ (by omega), va_up_ne _ _ (by omega)]
  exact h i h1 (by omega) (by omega)
theorem cnt_del {v : Nat → Int32} {n : Nat} (z : Int32) (hn : 1 ≤ n) : cnt (va_up v 1 (v (n + 1))) n z + (if v 1 = z then 1 else 0) = cnt v (n + 1) z := cnt_up z (Nat.le_refl 1) hn
/-! what the two comparisons answer -/
theorem ord_m {x y : Int32} (c : ¬ y ≤ x) : (0 < (-1 : Int32) ↔ ky true y < ky true x) := ⟨fun z => absurd z (by decide), fun z => by
  have z : y.toInt < x.toInt := z
  rw [Int32.le_iff_toInt_le] at c
  omega⟩
theorem ord_p {x y : Int32} (c : ¬ x ≤ y) : (0 < (1 : Int32) ↔ ky true y < ky true x) := ⟨fun _ => by
  show y.toInt < x.toInt
  rw [Int32.le_iff_toInt_le] at c
  omega, fun _ => by decide⟩
theorem ord_z {x y : Int32} (c : x ≤ y) : (0 < (0 : Int32) ↔ ky true y < ky true x) := ⟨fun z => absurd z (by decide), fun z => by
  have z : y.toInt < x.toInt := z
  rw [Int32.le_iff_toInt_le] at c
  omega⟩
theorem dwn_p {x y : Int32} (c : ¬ y ≤ x) : (0 < (1 : Int32) ↔ ky false y < ky false x) := ⟨fun _ => by
  show -y.toInt < -x.toInt
  rw [Int32.le_iff_toInt_le] at c
  omega, fun _ => by decide⟩
theorem dwn_m {x y : Int32} (c : ¬ x ≤ y) : (0 < (-1 : Int32) ↔ ky false y < ky false x) := ⟨fun z => absurd z (by decide), fun z => by
  have z : -y.toInt < -x.toInt := z
  rw [Int32.le_iff_toInt_le] at c
  omega⟩
theorem dwn_z {x y : Int32} (c : y ≤ x) : (0 < (0 : Int32) ↔ ky false y < ky false x) := ⟨fun z => absurd z (by decide), fun z => by
  have z : -y.toInt < -x.toInt := z
  rw [Int32.le_iff_toInt_le] at c
  omega⟩
end
section
/-! LEAVES: Integer, order, Down -/
set_option maxRecDepth 100000
set_option maxHeartbeats 4000000 in
set_option maxRecDepth 100000 in
/-- Number(): nothing happens -/
theorem m_numI (l : Launch) (G : gG) (H0 : Heap) (o : Nat) : Met l yJ5_init (ws_ yJ5_init cJ5_init 1 none) ({ frames := 1, cells := 0, slots := 0, locals := 12 }) (PcG G [.ref o] H0 (fun _ => False)) (va_Sv (fun _ => True)) 0 0 (fun _ => False) := by
  refine Met.ofW (cc := cJ5_init) (maxL := 1) (ret := none) (by decide) rfl ?_
  intro p e s m args below meth c s₁ B hml hv
  obtain ⟨rfl, rfl, hG⟩ := hv
  have hx := B.exec
  have hb := B.bytes
  have hr := B.returns
  have hts := atoms_spec (ws := ws_ yJ5_init cJ5_init 1 none) B.pre
  have hts : ∀ w ∈ lw_all, w.before _ s = true := fun w h => hts w (List.mem_cons_of_mem _ h)
  have hown : s.vm.findClass RJ5 = some m.cls := findClass_of_methodNamed B.named
  have hlocks := B.notSynchronized
  have hin : meth.name = "<init>" := (name_of_methodNamed B.named B.method).1
  have hK := hG.K
  have hS : va_S (fun _ => False) s.heap s.heap [] := va_S.rf
  have hl := lv_entry ([.ref o]) (n := 1) (Nat.le_of_ble_eq_true rfl)
  rw [lg_entry_eq]
  generalize (lg_sl ([.ref o]) ++ List.replicate (1 - (lg_sl ([.ref o])).length) Slot.unset).toArray = ls at hl ⊢
  have hl : lv_has ls 1 [(0, .ref o)] := hl
  refine lv_aload_n hx hb dJ5_init_0 rfl (lv_at hl 0 rfl) ?_
  refine W.objInit hx hb hown (hts _ q213) (hts _ q26) (hts _ q27) rfl (by rw [hml]; exact hl.1) rfl dJ5_init_1 (Nat.le_of_ble_eq_true rfl) (Nat.le_of_ble_eq_true rfl) ?_
  refine W.eq (g2 := F0 m 4 ls []) rfl ?_
  exact W.vret hx hb hr (fun t ht hW => ⟨rfl, trivial, ht⟩) hS.2.2 dJ5_init_4
set_option maxHeartbeats 4000000 in
set_option maxRecDepth 100000 in
/-- Integer(v) -/
theorem m_intI (l : Launch) (G : gG) (H0 : Heap) (o : Nat) (w v : Int32) (hP : va_P G.1 vwCl [(o, .inr (3, [.int w]))] H0) (hD : va_D (fun _ => True) [(o, .inr (3, [.int w]))]) : Met l yJ6_init (ws_ yJ6_init cJ6_init 2 none) ({ frames := 2, cells := 0, slots := 0, locals := 32 }) (PcG G [.ref o, .int v] H0 (va_A [(o, .inr (3, [.int w]))] H0.size)) (va_Qv (fun _ : Unit => True) (fun _ t => bx G t.heap o v) (va_A [(o, .inr (3, [.int w]))] H0.size)) 0 0 (va_A [(o, .inr (3, [.int w]))] H0.size) := by
  refine Met.ofW (cc := cJ6_init) (maxL := 2) (ret := none) (by decide) rfl ?_
  intro p e s m args below meth c s₁ B hml hv
  obtain ⟨rfl, rfl, hG⟩ := hv
  have hx := B.exec
  have hb := B.bytes
  have hr := B.returns
  have hts := atoms_spec (ws := ws_ yJ6_init cJ6_init 2 none) B.pre
  have hts : ∀ w ∈ lw_all, w.before _ s = true := fun w h => hts w (List.mem_cons_of_mem _ h)
  have hown : s.vm.findClass RJ6 = some m.cls := findClass_of_methodNamed B.named
  have hlocks := B.notSynchronized
  have hin : meth.name = "<init>" := (name_of_methodNamed B.named B.method).1
  have hK := hG.K
  have hD := hD.self (sz := s.heap.size)
  generalize hAe : va_A [(o, .inr (3, [.int w]))] s.heap.size = A at hD hG ⊢
  have hA : ∀ q : Nat, s.heap.size ≤ q → A q := fun q h => by rw [← hAe]; exact Or.inr h
  have hS : va_S A s.heap s.heap [] := va_S.rf
  have hl := lv_entry ([.ref o, .int v]) (n := 2) (Nat.le_of_ble_eq_true rfl)
  rw [lg_entry_eq]
  generalize (lg_sl ([.ref o, .int v]) ++ List.replicate (2 - (lg_sl ([.ref o, .int v])).length) Slot.unset).toArray = ls at hl ⊢
  have hl : lv_has ls 2 [(0, .ref o), (1, .int v)] := hl
  refine lv_aload_n hx hb dJ6_init_0 rfl (lv_at hl 0 rfl) ?_
  refine va_csv (va_Run.run (va_runI (As := []) (rest := []) ⟨hx, hb, hml, hown, hts⟩ (m_numI l G s.heap o) (cwI 0 hts (lw_meth q212) rfl rfl rfl (hts _ q14) (hts _ q210) (hts _ q211) rfl (by decide +kernel) ⟨Nat.le_of_ble_eq_true rfl, Nat.le_of_ble_eq_true rfl⟩) (PcG.s (hG.ro hS)) rfl rfl hl.1 rfl (lv_room (Nat.le_of_ble_eq_true rfl)) dJ6_init_1 ⟨Nat.le_of_ble_eq_true rfl, Nat.le_of_ble_eq_true rfl⟩)) (fun _ => ?_)
  refine lv_aload_n hx hb dJ6_init_4 rfl (lv_at hl 0 rfl) ?_
  refine lv_iload_n hx hb dJ6_init_5 rfl (lv_at hl 1 rfl) ?_
  refine va_putF (D := G.1) (ci := 3) (v := .int v) (ty := .int) (C := RJ6) (T := TJ6) (N := 1) hx hb hts in_J6 tyJ6 tyJ6_ok nmJ6 hown hK hP hD hS 0 rfl rfl 0 (by decide) (hts _ q214) (fun _ h9 => h9) rfl hin rfl (by decide +kernel) rfl rfl (Nat.le_of_ble_eq_true rfl) dJ6_init_6 (fun H1 locs hP hD hS => ?_)
  have hP : va_P G.1 vwCl [(o, .inr (3, [.int v]))] H1 := hP
  have hD : va_D A [(o, .inr (3, [.int v]))] := hD
  exact W.vret hx hb hr (fun t ht hW => ⟨⟨(), rfl, trivial, by dsimp only; rw [ht]; exact hP 0 _ rfl⟩, hS.F ht⟩) hS.2.2 dJ6_init_9
set_option maxHeartbeats 4000000 in
set_option maxRecDepth 100000 in
/-- Integer.intValue() -/
theorem m_intV (l : Launch) (G : gG) (H0 : Heap) (y : Nat) (v : Int32) (hy : bx G H0 y v) : Met l yJ6_intValue (ws_ yJ6_intValue cJ6_intValue 1 (some .int)) ({ frames := 0, cells := 0, slots := 0, locals := 0 }) (PcG G [.ref y] H0 (fun _ => False)) (vp_Si (fun x => x = v)) 0 0 (fun _ => False) := by
  refine Met.ofW (cc := cJ6_intValue) (maxL := 1) (ret := (some .int)) (by decide) rfl ?_
  intro p e s m args below meth c s₁ B hml hv
  obtain ⟨rfl, rfl, hG⟩ := hv
  have hx := B.exec
  have hb := B.bytes
  have hr := B.returns
  have hts := atoms_spec (ws := ws_ yJ6_intValue cJ6_intValue 1 (some .int)) B.pre
  have hts : ∀ w ∈ lw_all, w.before _ s = true := fun w h => hts w (List.mem_cons_of_mem _ h)
  have hown : s.vm.findClass RJ6 = some m.cls := findClass_of_methodNamed B.named
  have hlocks := B.notSynchronized
  have hK := hG.K
  have hS : va_S (fun _ => False) s.heap s.heap [] := va_S.rf
  have hl := lv_entry ([.ref y]) (n := 1) (Nat.le_of_ble_eq_true rfl)
  rw [lg_entry_eq]
  generalize (lg_sl ([.ref y]) ++ List.replicate (1 - (lg_sl ([.ref y])).length) Slot.unset).toArray = ls at hl ⊢
  have hl : lv_has ls 1 [(0, .ref y)] := hl
  refine lv_aload_n hx hb dJ6_intValue_0 rfl (lv_at hl 0 rfl) ?_
  refine bxget hx hb hts hown hK hy dJ6_intValue_1 ?_
  exact W.iret (v := v) hx hb hr (fun t ht hW => ⟨v, rfl, rfl, ht⟩) hS.2.2 dJ6_intValue_4
set_option maxHeartbeats 4000000 in
set_option maxRecDepth 100000 in
/-- Integer.valueOf(k): a cached box, or a new one -/
theorem m_valO (l : Launch) (G : gG) (H0 : Heap) (k : Nat) (hk : k < 65536) : Met l yJ6_valueOf (ws_ yJ6_valueOf cJ6_valueOf 1 (some (.object "java/lang/Integer"))) ({ frames := 3, cells := 1, slots := 1, locals := 53 }) (PcG G [.int (nI k)] H0 (va_A [] H0.size)) (va_Qr (fun _ : Unit => True) (fun _ a t => bx G t.heap a (nI k)) (va_A [] H0.size)) 1 1 (va_A [] H0.size) := by
  have hP : va_P G.1 vwCl [] H0 := fun k q h => by cases h
  have hD : va_D (fun _ => True) [] := ⟨fun i j x y h => (by cases h), fun i x h => (by cases h)⟩
  refine Met.ofW (cc := cJ6_valueOf) (maxL := 1) (ret := (some (.object "java/lang/Integer"))) (by decide) rfl ?_
  intro p e s m args below meth c s₁ B hml hv
  obtain ⟨rfl, rfl, hG⟩ := hv
  have hx := B.exec
  have hb := B.bytes
  have hr := B.returns
  have hts := atoms_spec (ws := ws_ yJ6_valueOf cJ6_valueOf 1 (some (.object "java/lang/Integer"))) B.pre
  have hts : ∀ w ∈ lw_all, w.before _ s = true := fun w h => hts w (List.mem_cons_of_mem _ h)
  have hown : s.vm.findClass RJ6 = some m.cls := findClass_of_methodNamed B.named
  have hlocks := B.notSynchronized
  have hK := hG.K
  have hbk : ∀ (H : Heap) (locs : List Loc), va_S (va_A [] s.heap.size) s.heap H locs → bK G s.heap H := fun H locs h => bK.of hK hP (nI_nil) h.2.1
  have hD := hD.self (sz := s.heap.size)
  generalize hAe : va_A [] s.heap.size = A at hD hG hbk ⊢
  have hA : ∀ q : Nat, s.heap.size ≤ q → A q := fun q h => by rw [← hAe]; exact Or.inr h
  have hS : va_S A s.heap s.heap [] := va_S.rf
  have hl := lv_entry ([.int (nI k)]) (n := 1) (Nat.le_of_ble_eq_true rfl)
  rw [lg_entry_eq]
  generalize (lg_sl ([.int (nI k)]) ++ List.replicate (1 - (lg_sl ([.int (nI k)])).length) Slot.unset).toArray = ls at hl ⊢
  have hl : lv_has ls 1 [(0, .int (nI k))] := hl
  refine lv_iload_n hx hb dJ6_valueOf_0 rfl (lv_at hl 0 rfl) ?_
  refine lv_bipush (v := (-128)) hx hb dJ6_valueOf_1 (by decide) ?_
  refine lv_icmp_lt (tgt := 23) hx hb dJ6_valueOf_3 (by decide) (fun c1 => ?_) (fun c1 => ?_)
  · have c1 := Int32.lt_iff_toInt_lt.mp c1
    rw [nI_toInt (by omega), show (-128 : Int32).toInt = -128 from by decide] at c1
    exact absurd c1 (by omega)
  · refine lv_iload_n hx hb dJ6_valueOf_6 rfl (lv_at hl 0 rfl) ?_
    refine va_gets (C := "java/lang/Integer$IntegerCache") (n := "high") (d := "I") hx hb hG.zHigh hS hown (hts _ q201) (fun _ h9 => h9) dJ6_valueOf_7 ?_
    refine lv_tn (nI (127)) (by decide) ?_
    refine bn_gt (tgt := 23) hx hb dJ6_valueOf_10 (by decide) (by omega) (by omega) (fun c2 => ?_) (fun c2 => ?_)
    · refine va_new (ci := 3) (fs := [.int 0]) (C := RJ6) (T := TJ6) (N := 1) hx hb hts in_J6 tyJ6 tyJ6_ok hown (hts _ q205) (hts _ q206) (hts _ q15) hK hP hD hS hA rfl (fun j hj => by rcases (show j = 0 by omega) with rfl <;> rfl) (Nat.le_of_ble_eq_true rfl) (Nat.le_of_ble_eq_true rfl) dJ6_valueOf_23 (fun q H2 hP hD hS => ?_)
      have hP : va_P G.1 vwCl [(q, .inr (3, [.int 0]))] H2 := hP
      have hD : va_D A [(q, .inr (3, [.int 0]))] := hD
      refine lv_dup hx hb dJ6_valueOf_26 rfl ?_
      refine lv_iload_n hx hb dJ6_valueOf_27 rfl (lv_at hl 0 rfl) ?_
      have hFc := va_free (wc := [(q, .inr (3, [.int 0]))]) hD hS hA [0] rfl
      refine va_callv (va_runI (As := [.int (nI k)]) (rest := [.ref q]) ⟨hx, hb, hml, hown, hts⟩ (m_intI l G H2 q 0 (nI k) hP (hD.weaken (fun _ _ _ _ => trivial))) (cwI 1 hts (lw_meth q209) rfl rfl rfl (hts _ q15) (hts _ q207) (hts _ q208) rfl (by decide +kernel) ⟨Nat.le_of_ble_eq_true rfl, Nat.le_of_ble_eq_true rfl⟩) (PcG.s (hG.sub hS hFc)) rfl rfl hl.1 rfl (lv_room (Nat.le_of_ble_eq_true rfl)) dJ6_valueOf_28 ⟨Nat.le_of_ble_eq_true rfl, Nat.le_of_ble_eq_true rfl⟩) hS (fun q _ h => hFc q h) hFc (fun u t H1 locs ht hvm hw hB hz1 hk1 hS => ?_)
      rw [ht] at hB
      refine W.widen (k := 1) (n := 1) (by decide) (by decide) ?_
      exact W.aret (v := .ref q) hx hb hr (Or.inl ⟨_, rfl⟩) (Or.inr ⟨_, rfl⟩) (fun t ht hW => ⟨⟨(), _, rfl, trivial, by dsimp only; rw [ht]; exact hB⟩, hS.F ht⟩) hS.2.2 dJ6_valueOf_31
    · refine va_gets (C := "java/lang/Integer$IntegerCache") (n := "cache") (d := "[Ljava/lang/Integer;") hx hb hG.zCache hS hown (hts _ q203) (fun _ h9 => h9) dJ6_valueOf_13 ?_
      refine lv_iload_n hx hb dJ6_valueOf_16 rfl (lv_at hl 0 rfl) ?_
      refine lv_sipush (v := nI 128) hx hb dJ6_valueOf_17 (by decide) ?_
      refine lv_iadd hx hb dJ6_valueOf_20 ?_
      refine lv_tn (nI (k + 128)) (nI_add _ _) ?_
      refine vb_tq (C := "java/lang/Integer") (v := .ref (G.2.2 (k + 128 + 2))) hx hb hG.zTab hS (vp_in_nI (by omega) (by omega)) (by simp only [nI_clamp (show k + 128 < 2 ^ 31 by omega)]) dJ6_valueOf_21 ?_
      have hbx := hG.zBox (k := k + 128) (by omega)
      rw [show vb_c (k + 128) = nI k from (pk_sub (a := k + 128) (b := 128) (by omega)).trans (congrArg nI (by omega))] at hbx
      refine W.widen (k := 1) (n := 1) (by decide) (by decide) ?_
      exact W.aret (v := .ref (G.2.2 (k + 128 + 2))) hx hb hr (Or.inl ⟨_, rfl⟩) (Or.inr ⟨_, rfl⟩) (fun t ht hW => ⟨⟨(), _, rfl, trivial, by dsimp only; rw [ht]; exact hbx⟩, hS.F ht⟩) hS.2.2 dJ6_valueOf_22
set_option maxHeartbeats 4000000 in
set_option maxRecDepth 100000 in
/-- order(a, b): positive when b comes first -/
theorem m_order (l : Launch) (G : gG) (H0 : Heap) (a b : Nat) (x y : Int32) (ha : bx G H0 a x) (hb0 : bx G H0 b y) : Met l yX0_order (ws_ yX0_order cX0_order 4 (some .int)) ({ frames := 1, cells := 0, slots := 0, locals := 20 }) (PcG G [.ref a, .ref b] H0 (fun _ => False)) (vp_Si (fun r => (0 < r ↔ ky true y < ky true x))) 0 0 (fun _ => False) := by
  refine Met.ofW (cc := cX0_order) (maxL := 4) (ret := (some .int)) (by decide) rfl ?_
  intro p e s m args below meth c s₁ B hml hv
  obtain ⟨rfl, rfl, hG⟩ := hv
  have hx := B.exec
  have hb := B.bytes
  have hr := B.returns
  have hts := atoms_spec (ws := ws_ yX0_order cX0_order 4 (some .int)) B.pre
  have hts : ∀ w ∈ lw_all, w.before _ s = true := fun w h => hts w (List.mem_cons_of_mem _ h)
  have hown : s.vm.findClass RX0 = some m.cls := findClass_of_methodNamed B.named
  have hlocks := B.notSynchronized
  have hK := hG.K
  have hS : va_S (fun _ => False) s.heap s.heap [] := va_S.rf
  have hl := lv_entry ([.ref a, .ref b]) (n := 4) (Nat.le_of_ble_eq_true rfl)
  rw [lg_entry_eq]
  generalize (lg_sl ([.ref a, .ref b]) ++ List.replicate (4 - (lg_sl ([.ref a, .ref b])).length) Slot.unset).toArray = ls at hl ⊢
  have hl : lv_has ls 4 [(0, .ref a), (1, .ref b)] := hl
  refine lv_aload_n hx hb dX0_order_0 rfl (lv_at hl 0 rfl) ?_
  refine va_castS (nm := "java/lang/Integer") hx hb hown (hts _ q266) (hK.1 3 (RJ6, TJ6, 1) rfl).2 (bx.recv hK ha) dX0_order_1 ?_
  refine vp_callSi (va_Run.run (va_runV (As := []) (rest := []) ⟨hx, hb, hml, hown, hts⟩ (m_intV l G s.heap a x ha) (cwV 0 hts (lw_V q267 q268 q269 q15 q270) rfl rfl rfl (by decide +kernel) ⟨Nat.le_of_ble_eq_true rfl, Nat.le_of_ble_eq_true rfl⟩) (PcG.v (bx.recv hK ha) (hG.ro hS)) rfl rfl hl.1 rfl (lv_room (Nat.le_of_ble_eq_true rfl)) dX0_order_4 ⟨Nat.le_of_ble_eq_true rfl, Nat.le_of_ble_eq_true rfl⟩)) (fun r3 hr3 => ?_)
  rw [hr3]
  refine lv_istore_n (lv' := [(2, .int x), (0, .ref a), (1, .ref b)]) hx hb dX0_order_7 rfl hl (by decide) rfl (fun ls hl => ?_)
  refine lv_aload_n hx hb dX0_order_8 rfl (lv_at hl 2 rfl) ?_
  refine va_castS (nm := "java/lang/Integer") hx hb hown (hts _ q266) (hK.1 3 (RJ6, TJ6, 1) rfl).2 (bx.recv hK hb0) dX0_order_9 ?_
  refine vp_callSi (va_Run.run (va_runV (As := []) (rest := []) ⟨hx, hb, hml, hown, hts⟩ (m_intV l G s.heap b y hb0) (cwV 0 hts (lw_V q267 q268 q269 q15 q270) rfl rfl rfl (by decide +kernel) ⟨Nat.le_of_ble_eq_true rfl, Nat.le_of_ble_eq_true rfl⟩) (PcG.v (bx.recv hK hb0) (hG.ro hS)) rfl rfl hl.1 rfl (lv_room (Nat.le_of_ble_eq_true rfl)) dX0_order_12 ⟨Nat.le_of_ble_eq_true rfl, Nat.le_of_ble_eq_true rfl⟩)) (fun r4 hr4 => ?_)
  rw [hr4]
  refine lv_istore_n (lv' := [(3, .int y), (2, .int x), (0, .ref a), (1, .ref b)]) hx hb dX0_order_15 rfl hl (by decide) rfl (fun ls hl => ?_)
  refine lv_iload_n hx hb dX0_order_16 rfl (lv_at hl 1 rfl) ?_
  refine lv_iload_n hx hb dX0_order_17 rfl (lv_at hl 0 rfl) ?_
  refine lv_icmp_ge (tgt := 25) hx hb dX0_order_18 (by decide) (fun c1 => ?_) (fun c1 => ?_)
  · refine lv_iload_n hx hb dX0_order_25 rfl (lv_at hl 1 rfl) ?_
    refine lv_iload_n hx hb dX0_order_26 rfl (lv_at hl 0 rfl) ?_
    refine lv_icmp_le (tgt := 34) hx hb dX0_order_27 (by decide) (fun c2 => ?_) (fun c2 => ?_)
    · refine lv_iconst (v := nI 0) hx hb dX0_order_34 (by decide) ?_
      exact W.iret (v := (nI 0)) hx hb hr (fun t ht hW => ⟨(nI 0), rfl, ord_z c2, ht⟩) hS.2.2 dX0_order_35
    · refine lv_iconst (v := nI 1) hx hb dX0_order_30 (by decide) ?_
      refine lv_goto (tgt := 35) hx hb dX0_order_31 (by decide) ?_
      exact W.iret (v := (nI 1)) hx hb hr (fun t ht hW => ⟨(nI 1), rfl, ord_p c2, ht⟩) hS.2.2 dX0_order_35
  · refine lv_iconst (v := (-1)) hx hb dX0_order_21 (by decide) ?_
    refine lv_goto (tgt := 35) hx hb dX0_order_22 (by decide) ?_
    exact W.iret (v := (-1)) hx hb hr (fun t ht hW => ⟨(-1), rfl, ord_m c1, ht⟩) hS.2.2 dX0_order_35
set_option maxHeartbeats 4000000 in
set_option maxRecDepth 100000 in
/-- Down.compare(a, b): positive when a is less -/
theorem m_cmp2 (l : Launch) (G : gG) (H0 : Heap) (a b : Nat) (x y : Int32) (ha : bx G H0 a x) (hb0 : bx G H0 b y) : Met l yX5_compare_2 (ws_ yX5_compare_2 cX5_compare_2 5 (some .int)) ({ frames := 1, cells := 0, slots := 0, locals := 20 }) (PcG G [.ref ((G.2.2 1)), .ref a, .ref b] H0 (fun _ => False)) (vp_Si (fun r => (0 < r ↔ ky false y < ky false x))) 0 0 (fun _ => False) := by
  refine Met.ofW (cc := cX5_compare_2) (maxL := 5) (ret := (some .int)) (by decide) rfl ?_
  intro p e s m args below meth c s₁ B hml hv
  obtain ⟨rfl, rfl, hG⟩ := hv
  have hx := B.exec
  have hb := B.bytes
  have hr := B.returns
  have hts := atoms_spec (ws := ws_ yX5_compare_2 cX5_compare_2 5 (some .int)) B.pre
  have hts : ∀ w ∈ lw_all, w.before _ s = true := fun w h => hts w (List.mem_cons_of_mem _ h)
  have hown : s.vm.findClass RX5 = some m.cls := findClass_of_methodNamed B.named
  have hlocks := B.notSynchronized
  have hK := hG.K
  have hS : va_S (fun _ => False) s.heap s.heap [] := va_S.rf
  have hl := lv_entry ([.ref ((G.2.2 1)), .ref a, .ref b]) (n := 5) (Nat.le_of_ble_eq_true rfl)
  rw [lg_entry_eq]
  generalize (lg_sl ([.ref ((G.2.2 1)), .ref a, .ref b]) ++ List.replicate (5 - (lg_sl ([.ref ((G.2.2 1)), .ref a, .ref b])).length) Slot.unset).toArray = ls at hl ⊢
  have hl : lv_has ls 5 [(0, .ref ((G.2.2 1))), (1, .ref a), (2, .ref b)] := hl
  refine lv_aload_n hx hb dX5_compare_2_0 rfl (lv_at hl 1 rfl) ?_
  refine vp_callSi (va_Run.run (va_runV (As := []) (rest := []) ⟨hx, hb, hml, hown, hts⟩ (m_intV l G s.heap a x ha) (cwV 0 hts (lw_V q292 q268 q269 q15 q270) rfl rfl rfl (by decide +kernel) ⟨Nat.le_of_ble_eq_true rfl, Nat.le_of_ble_eq_true rfl⟩) (PcG.v (bx.recv hK ha) (hG.ro hS)) rfl rfl hl.1 rfl (lv_room (Nat.le_of_ble_eq_true rfl)) dX5_compare_2_1 ⟨Nat.le_of_ble_eq_true rfl, Nat.le_of_ble_eq_true rfl⟩)) (fun r5 hr5 => ?_)
  rw [hr5]
  refine lv_istore_n (lv' := [(3, .int x), (0, .ref ((G.2.2 1))), (1, .ref a), (2, .ref b)]) hx hb dX5_compare_2_4 rfl hl (by decide) rfl (fun ls hl => ?_)
  refine lv_aload_n hx hb dX5_compare_2_5 rfl (lv_at hl 3 rfl) ?_
  refine vp_callSi (va_Run.run (va_runV (As := []) (rest := []) ⟨hx, hb, hml, hown, hts⟩ (m_intV l G s.heap b y hb0) (cwV 0 hts (lw_V q292 q268 q269 q15 q270) rfl rfl rfl (by decide +kernel) ⟨Nat.le_of_ble_eq_true rfl, Nat.le_of_ble_eq_true rfl⟩) (PcG.v (bx.recv hK hb0) (hG.ro hS)) rfl rfl hl.1 rfl (lv_room (Nat.le_of_ble_eq_true rfl)) dX5_compare_2_6 ⟨Nat.le_of_ble_eq_true rfl, Nat.le_of_ble_eq_true rfl⟩)) (fun r6 hr6 => ?_)
  rw [hr6]
  refine lv_istore (lv' := [(4, .int y), (3, .int x), (0, .ref ((G.2.2 1))), (1, .ref a), (2, .ref b)]) hx hb dX5_compare_2_9 hl (by decide) rfl (fun ls hl => ?_)
  refine lv_iload_n hx hb dX5_compare_2_11 rfl (lv_at hl 1 rfl) ?_
  refine lv_iload hx hb dX5_compare_2_12 (lv_at hl 0 rfl) ?_
  refine lv_icmp_ge (tgt := 21) hx hb dX5_compare_2_14 (by decide) (fun c1 => ?_) (fun c1 => ?_)
  · refine lv_iload_n hx hb dX5_compare_2_21 rfl (lv_at hl 1 rfl) ?_
    refine lv_iload hx hb dX5_compare_2_22 (lv_at hl 0 rfl) ?_
    refine lv_icmp_le (tgt := 31) hx hb dX5_compare_2_24 (by decide) (fun c2 => ?_) (fun c2 => ?_)
    · refine lv_iconst (v := nI 0) hx hb dX5_compare_2_31 (by decide) ?_
      exact W.iret (v := (nI 0)) hx hb hr (fun t ht hW => ⟨(nI 0), rfl, dwn_z c1, ht⟩) hS.2.2 dX5_compare_2_32
    · refine lv_iconst (v := (-1)) hx hb dX5_compare_2_27 (by decide) ?_
      refine lv_goto (tgt := 32) hx hb dX5_compare_2_28 (by decide) ?_
      exact W.iret (v := (-1)) hx hb hr (fun t ht hW => ⟨(-1), rfl, dwn_m c2, ht⟩) hS.2.2 dX5_compare_2_32
  · refine lv_iconst (v := nI 1) hx hb dX5_compare_2_17 (by decide) ?_
    refine lv_goto (tgt := 32) hx hb dX5_compare_2_18 (by decide) ?_
    exact W.iret (v := (nI 1)) hx hb hr (fun t ht hW => ⟨(nI 1), rfl, dwn_p c1, ht⟩) hS.2.2 dX5_compare_2_32
set_option maxHeartbeats 4000000 in
set_option maxRecDepth 100000 in
/-- Down.compare(Object, Object) -/
theorem m_cmp1 (l : Launch) (G : gG) (H0 : Heap) (a b : Nat) (x y : Int32) (ha : bx G H0 a x) (hb0 : bx G H0 b y) : Met l yX5_compare (ws_ yX5_compare cX5_compare 3 (some .int)) ({ frames := 2, cells := 0, slots := 0, locals := 44 }) (PcG G [.ref ((G.2.2 1)), .ref a, .ref b] H0 (fun _ => False)) (vp_Si (fun r => (0 < r ↔ ky false y < ky false x))) 0 0 (fun _ => False) := by
  refine Met.ofW (cc := cX5_compare) (maxL := 3) (ret := (some .int)) (by decide) rfl ?_
  intro p e s m args below meth c s₁ B hml hv
  obtain ⟨rfl, rfl, hG⟩ := hv
  have hx := B.exec
  have hb := B.bytes
  have hr := B.returns
  have hts := atoms_spec (ws := ws_ yX5_compare cX5_compare 3 (some .int)) B.pre
  have hts : ∀ w ∈ lw_all, w.before _ s = true := fun w h => hts w (List.mem_cons_of_mem _ h)
  have hown : s.vm.findClass RX5 = some m.cls := findClass_of_methodNamed B.named
  have hlocks := B.notSynchronized
  have hK := hG.K
  have hS : va_S (fun _ => False) s.heap s.heap [] := va_S.rf
  have hl := lv_entry ([.ref ((G.2.2 1)), .ref a, .ref b]) (n := 3) (Nat.le_of_ble_eq_true rfl)
  rw [lg_entry_eq]
  generalize (lg_sl ([.ref ((G.2.2 1)), .ref a, .ref b]) ++ List.replicate (3 - (lg_sl ([.ref ((G.2.2 1)), .ref a, .ref b])).length) Slot.unset).toArray = ls at hl ⊢
  have hl : lv_has ls 3 [(0, .ref ((G.2.2 1))), (1, .ref a), (2, .ref b)] := hl
  refine lv_aload_n hx hb dX5_compare_0 rfl (lv_at hl 0 rfl) ?_
  refine lv_aload_n hx hb dX5_compare_1 rfl (lv_at hl 1 rfl) ?_
  refine va_castS (nm := "java/lang/Integer") hx hb hown (hts _ q287) (hK.1 3 (RJ6, TJ6, 1) rfl).2 (bx.recv hK ha) dX5_compare_2 ?_
  refine lv_aload_n hx hb dX5_compare_5 rfl (lv_at hl 2 rfl) ?_
  refine va_castS (nm := "java/lang/Integer") hx hb hown (hts _ q287) (hK.1 3 (RJ6, TJ6, 1) rfl).2 (bx.recv hK hb0) dX5_compare_6 ?_
  refine vp_callSi (va_Run.run (va_runV (As := [.ref a, .ref b]) (rest := []) ⟨hx, hb, hml, hown, hts⟩ (m_cmp2 l G s.heap a b x y ha hb0) (cwV 2 hts (lw_V q288 q289 q290 q460 q291) rfl rfl rfl (by decide +kernel) ⟨Nat.le_of_ble_eq_true rfl, Nat.le_of_ble_eq_true rfl⟩) (PcG.v (hG.down hS) (hG.ro hS)) rfl rfl hl.1 rfl (lv_room (Nat.le_of_ble_eq_true rfl)) dX5_compare_9 ⟨Nat.le_of_ble_eq_true rfl, Nat.le_of_ble_eq_true rfl⟩)) (fun r1 hr1 => ?_)
  exact W.iret (v := r1) hx hb hr (fun t ht hW => ⟨r1, rfl, hr1, ht⟩) hS.2.2 dX5_compare_12
end
section
/-! fixup and fixdown, each in both orders. wH: a heap object and its array; QFx: what they leave behind (heap order under all parents from k0 on, the same values) -/
set_option maxRecDepth 100000
abbrev wH (G : gG) (h a cap n d : Nat) (c0 : Value) (f : Nat → Option Nat) : va_W := [(h, .inr (0, [c0, .ref a, .int (nI n), .int (nI 16), .int (nI d)])), (a, .inl (G.2.1 0, qA (cap + 1) f))]
theorem wH_nI {G : gG} {h a cap n d : Nat} {c0 : Value} {f : Nat → Option Nat} : ∀ q ∈ wH G h a cap n d c0 f, notI G q := nI_o (by decide) (nI_a 0 (by decide) nI_nil)
abbrev QFx (G : gG) (up : Bool) (k0 h a cap n d : Nat) (c0 : Value) (v : Nat → Int32) (A : Nat → Prop) : Array Value → State → Outcome → State → Prop := va_Qv (fun u : (Nat → Option Nat) × (Nat → Int32) => (∀ z : Int32, cnt u.2 n z = cnt v n z) ∧ ho up d n k0 u.2) (fun u t => va_P G.1 vwCl (wH G h a cap n d c0 u.1) t.heap ∧ va_D A (wH G h a cap n d c0 u.1) ∧ bxs G t.heap u.1 n u.2) A
set_option maxHeartbeats 4000000 in
set_option maxRecDepth 100000 in
/-- fixup: the key at k0 rises -/
theorem m_fup (l : Launch) (G : gG) (H0 : Heap) (h a cap n d k0 : Nat) (c0 : Value) (f : Nat → Option Nat) (v : Nat → Int32) (hd : d = 2 ∨ d = 3) (hk0 : 1 ≤ k0) (hkn : k0 ≤ n) (hn : n ≤ cap) (hcap : cap ≤ 1000) (hi : fuI true d n k0 v) (hbx : bxs G H0 f n v) (hP : va_P G.1 vwCl (wH G h a cap n d c0 f) H0) (hD : va_D (fun _ => True) (wH G h a cap n d c0 f)) : Met l yX3_fixup (ws_ yX3_fixup cX3_fixup 4 none) ({ frames := 2, cells := 0, slots := 0, locals := 43 }) (PcG G [.ref h, .int (nI k0)] H0 (va_A (wH G h a cap n d c0 f) H0.size)) (QFx G true 1 h a cap n d c0 v (va_A (wH G h a cap n d c0 f) H0.size)) 0 0 (va_A (wH G h a cap n d c0 f) H0.size) := by
  refine Met.ofW (cc := cX3_fixup) (maxL := 4) (ret := none) (by decide) rfl ?_
  intro p e s m args below meth c s₁ B hml hv
  obtain ⟨rfl, rfl, hG⟩ := hv
  have hx := B.exec
  have hb := B.bytes
  have hr := B.returns
  have hts := atoms_spec (ws := ws_ yX3_fixup cX3_fixup 4 none) B.pre
  have hts : ∀ w ∈ lw_all, w.before _ s = true := fun w h => hts w (List.mem_cons_of_mem _ h)
  have hown : s.vm.findClass RX3 = some m.cls := findClass_of_methodNamed B.named
  have hlocks := B.notSynchronized
  have hK := hG.K
  have hbk : ∀ (H : Heap) (locs : List Loc), va_S (va_A (wH G h a cap n d c0 f) s.heap.size) s.heap H locs → bK G s.heap H := fun H locs h => bK.of hK hP (wH_nI) h.2.1
  have hD := hD.self (sz := s.heap.size)
  generalize hAe : va_A (wH G h a cap n d c0 f) s.heap.size = A at hD hG hbk ⊢
  have hA : ∀ q : Nat, s.heap.size ≤ q → A q := fun q h => by rw [← hAe]; exact Or.inr h
  have hS : va_S A s.heap s.heap [] := va_S.rf
  have hl := lv_entry ([.ref h, .int (nI k0)]) (n := 4) (Nat.le_of_ble_eq_true rfl)
  rw [lg_entry_eq]
  generalize (lg_sl ([.ref h, .int (nI k0)]) ++ List.replicate (4 - (lg_sl ([.ref h, .int (nI k0)])).length) Slot.unset).toArray = ls at hl ⊢
  have hl : lv_has ls 4 [(0, .ref h), (1, .int (nI k0))] := hl
  obtain ⟨y0, hf0, hy0⟩ := hbx k0 hk0 hkn
  refine lv_aload_n hx hb dX3_fixup_0 rfl (lv_at hl 0 rfl) ?_
  refine va_get (D := G.1) (ci := 0) (v := .ref a) (C := RX3) (T := TX3) (N := 5) hx hb hts in_X3 hown hK hP 0 rfl rfl 1 (by decide) (hts _ q160) (fun x9 h9 => u_same (hts _ q161) x9 h9) rfl dX3_fixup_1 ?_
  refine lv_iload_n hx hb dX3_fixup_4 rfl (lv_at hl 1 rfl) ?_
  refine qld (y := y0) hx hb hK hP 1 0 rfl rfl (by omega) (by omega) (hf0) dX3_fixup_5 ?_
  refine lv_astore_n (lv' := [(2, .ref y0), (0, .ref h), (1, .int (nI k0))]) hx hb dX3_fixup_6 rfl hl (by decide) rfl (fun ls hl => ?_)
  have loop : ∀ (fuel k : Nat) (f : Nat → Option Nat) (u : Nat → Int32) (H : Heap) (locs : List Loc) (ls : Array Slot), k < fuel → 1 ≤ k → k ≤ n → fuI true d n k (va_up u k (v k0)) → (∀ z : Int32, cnt (va_up u k (v k0)) n z = cnt v n z) → bxs G s.heap f n u → va_P G.1 vwCl [(h, .inr (0, [c0, .ref a, .int (nI n), .int (nI 16), .int (nI d)])), (a, .inl (G.2.1 0, qA (cap + 1) (f)))] H → va_D A [(h, .inr (0, [c0, .ref a, .int (nI n), .int (nI 16), .int (nI d)])), (a, .inl (G.2.1 0, qA (cap + 1) (f)))] → va_S A s.heap H locs → lv_has ls 4 [(0, .ref h), (1, .int (nI k)), (2, .ref y0)] → W p l e (headSpec (ws_ yX3_fixup cX3_fixup 4 none) ({ frames := 2, cells := 0, slots := 0, locals := 43 })).room s m ([.ref h, .int (nI k0)] : List Value).toArray below meth c H locs 0 0 (MQ below (QFx G true 1 h a cap n d c0 v (A)) ([.ref h, .int (nI k0)] : List Value).toArray s 0 0 A) (F0 m 7 ls []) := by
    intro fuel
    induction fuel with
    | zero =>
      intro k f u H locs ls hfu
      exact absurd hfu (Nat.not_lt_zero _)
    | succ fuel ih =>
      intro k f u H locs ls hfu hk1 hkn hI hC hbu hP hD hS hl
      refine lv_iload_n hx hb dX3_fixup_7 rfl (lv_at hl 1 rfl) ?_
      refine lv_iconst (v := nI 1) hx hb dX3_fixup_8 (by decide) ?_
      refine bn_le (tgt := 59) hx hb dX3_fixup_9 (by decide) (by omega) (by omega) (fun c1 => ?_) (fun c1 => ?_)
      · have hk9 : k = 1 := by omega
        refine lv_aload_n hx hb dX3_fixup_59 rfl (lv_at hl 0 rfl) ?_
        refine va_get (D := G.1) (ci := 0) (v := .ref a) (C := RX3) (T := TX3) (N := 5) hx hb hts in_X3 hown hK hP 0 rfl rfl 1 (by decide) (hts _ q160) (fun x9 h9 => u_same (hts _ q161) x9 h9) rfl dX3_fixup_60 ?_
        refine lv_iload_n hx hb dX3_fixup_63 rfl (lv_at hl 1 rfl) ?_
        refine lv_aload_n hx hb dX3_fixup_64 rfl (lv_at hl 2 rfl) ?_
        refine qst (C := "java/lang/Integer") hx hb hK hP hD hS 1 0 rfl rfl (bx.recv hK (hbk _ _ hS _ _ hy0)) (vb_asgC hG.N.toO) (by omega) (by omega) dX3_fixup_65 (fun H7 locs hP hD hS hoq => ?_)
        have hP : va_P G.1 vwCl [(h, .inr (0, [c0, .ref a, .int (nI n), .int (nI 16), .int (nI d)])), (a, .inl (G.2.1 0, qA (cap + 1) (va_up (f) (k) (some y0))))] H7 := hP
        have hD : va_D A [(h, .inr (0, [c0, .ref a, .int (nI n), .int (nI 16), .int (nI d)])), (a, .inl (G.2.1 0, qA (cap + 1) (va_up (f) (k) (some y0))))] := hD
        exact W.vret hx hb hr (fun t ht hW => ⟨⟨(va_up f k (some y0), va_up u k (v k0)), rfl, ⟨hC, fuI_one (by rw [hk9] at hI ⊢; exact hI)⟩, by rw [ht]; exact hP, hD, by rw [ht]; exact (hbu.kept (hbk _ _ hS)).up (hbk _ _ hS _ _ hy0)⟩, hS.F ht⟩) hS.2.2 dX3_fixup_66
      · have hpl := pr_lt hd (i := k) (by omega)
        have hp1 := pr_pos d k
        obtain ⟨y1, hf1, hy1⟩ := hbu (pr d k) hp1 (by omega)
        refine lv_iload_n hx hb dX3_fixup_12 rfl (lv_at hl 1 rfl) ?_
        refine lv_iconst (v := nI 2) hx hb dX3_fixup_13 (by decide) ?_
        refine lv_isub hx hb dX3_fixup_14 ?_
        refine lv_tn (nI (k - 2)) (pk_sub (by omega)) ?_
        refine lv_aload_n hx hb dX3_fixup_15 rfl (lv_at hl 0 rfl) ?_
        refine va_get (D := G.1) (ci := 0) (v := .int (nI d)) (C := RX3) (T := TX3) (N := 5) hx hb hts in_X3 hown hK hP 0 rfl rfl 4 (by decide) (hts _ q152) (fun _ h9 => h9) rfl dX3_fixup_16 ?_
        refine lv_idiv hx hb dX3_fixup_19 (nI_ne0 (by omega) (by omega)) ?_
        refine lv_tn (nI ((k - 2) / (d))) (pk_div (by omega) (by omega) (by omega)) ?_
        refine lv_iconst (v := nI 1) hx hb dX3_fixup_20 (by decide) ?_
        refine lv_iadd hx hb dX3_fixup_21 ?_
        refine lv_tn (nI (pr d k)) (nI_add _ _) ?_
        refine lv_istore_n (lv' := [(3, .int (nI (pr d k))), (0, .ref h), (1, .int (nI k)), (2, .ref y0)]) hx hb dX3_fixup_22 rfl hl (by decide) rfl (fun ls hl => ?_)
        refine lv_aload_n hx hb dX3_fixup_23 rfl (lv_at hl 1 rfl) ?_
        refine va_get (D := G.1) (ci := 0) (v := .ref a) (C := RX3) (T := TX3) (N := 5) hx hb hts in_X3 hown hK hP 0 rfl rfl 1 (by decide) (hts _ q160) (fun x9 h9 => u_same (hts _ q161) x9 h9) rfl dX3_fixup_24 ?_
        refine lv_iload_n hx hb dX3_fixup_27 rfl (lv_at hl 0 rfl) ?_
        refine qld (y := y1) hx hb hK hP 1 0 rfl rfl (by omega) (by omega) (hf1) dX3_fixup_28 ?_
        refine va_castY (C := "java/lang/Integer") hx hb hown (hts _ q262) hG.N.toC (bx.recv hK (hbk _ _ hS _ _ hy1)) dX3_fixup_29 ?_
        refine lv_aload_n hx hb dX3_fixup_32 rfl (lv_at hl 3 rfl) ?_
        refine vp_callSi (va_Run.run (va_runS (As := [.ref y1, .ref y0]) (rest := []) ⟨hx, hb, hml, hown, hts⟩ (m_order l G _ y1 y0 (u (pr d k)) (v k0) (hbk _ _ hS _ _ hy1) (hbk _ _ hS _ _ hy0)) (va_cwS 2 hts (lw_S q263 q264 q4 q265) rfl rfl rfl (by decide +kernel) ⟨Nat.le_of_ble_eq_true rfl, Nat.le_of_ble_eq_true rfl⟩) (PcG.s (hG.ro hS)) rfl rfl hl.1 rfl (lv_room (Nat.le_of_ble_eq_true rfl)) dX3_fixup_33 ⟨Nat.le_of_ble_eq_true rfl, Nat.le_of_ble_eq_true rfl⟩)) (fun r8 hr8 => ?_)
        refine lv_if_gt (tgt := 42) hx hb dX3_fixup_36 (by decide) (fun c2 => ?_) (fun c2 => ?_)
        · refine lv_aload_n hx hb dX3_fixup_42 rfl (lv_at hl 1 rfl) ?_
          refine va_get (D := G.1) (ci := 0) (v := .ref a) (C := RX3) (T := TX3) (N := 5) hx hb hts in_X3 hown hK hP 0 rfl rfl 1 (by decide) (hts _ q160) (fun x9 h9 => u_same (hts _ q161) x9 h9) rfl dX3_fixup_43 ?_
          refine lv_iload_n hx hb dX3_fixup_46 rfl (lv_at hl 2 rfl) ?_
          refine lv_aload_n hx hb dX3_fixup_47 rfl (lv_at hl 1 rfl) ?_
          refine va_get (D := G.1) (ci := 0) (v := .ref a) (C := RX3) (T := TX3) (N := 5) hx hb hts in_X3 hown hK hP 0 rfl rfl 1 (by decide) (hts _ q160) (fun x9 h9 => u_same (hts _ q161) x9 h9) rfl dX3_fixup_48 ?_
          refine lv_iload_n hx hb dX3_fixup_51 rfl (lv_at hl 0 rfl) ?_
          refine qld (y := y1) hx hb hK hP 1 0 rfl rfl (by omega) (by omega) (hf1) dX3_fixup_52 ?_
          refine qst (C := "java/lang/Integer") hx hb hK hP hD hS 1 0 rfl rfl (bx.recv hK (hbk _ _ hS _ _ hy1)) (vb_asgC hG.N.toO) (by omega) (by omega) dX3_fixup_53 (fun H10 locs hP hD hS hoq => ?_)
          have hP : va_P G.1 vwCl [(h, .inr (0, [c0, .ref a, .int (nI n), .int (nI 16), .int (nI d)])), (a, .inl (G.2.1 0, qA (cap + 1) (va_up (f) (k) (some y1))))] H10 := hP
          have hD : va_D A [(h, .inr (0, [c0, .ref a, .int (nI n), .int (nI 16), .int (nI d)])), (a, .inl (G.2.1 0, qA (cap + 1) (va_up (f) (k) (some y1))))] := hD
          refine lv_iload_n hx hb dX3_fixup_54 rfl (lv_at hl 0 rfl) ?_
          refine lv_istore_n (lv' := [(1, .int (nI (pr d k))), (3, .int (nI (pr d k))), (0, .ref h), (2, .ref y0)]) hx hb dX3_fixup_55 rfl hl (by decide) rfl (fun ls hl => ?_)
          refine lv_goto (tgt := 7) hx hb dX3_fixup_56 (by decide) ?_
          exact ih (pr d k) _ (va_up u k (u (pr d k))) _ _ _ (by omega) hp1 (by omega) (fuI_step hd (by omega) hkn (hr8.mp c2) hI) (fun z => (cnt_mv z hk1 hkn hp1 (by omega) (by omega)).trans (hC z)) (hbu.up hy1) hP hD hS (lv_sub hl [2, 0, 3] rfl)
        · refine lv_goto (tgt := 59) hx hb dX3_fixup_39 (by decide) ?_
          refine lv_aload_n hx hb dX3_fixup_59 rfl (lv_at hl 1 rfl) ?_
          refine va_get (D := G.1) (ci := 0) (v := .ref a) (C := RX3) (T := TX3) (N := 5) hx hb hts in_X3 hown hK hP 0 rfl rfl 1 (by decide) (hts _ q160) (fun x9 h9 => u_same (hts _ q161) x9 h9) rfl dX3_fixup_60 ?_
          refine lv_iload_n hx hb dX3_fixup_63 rfl (lv_at hl 2 rfl) ?_
          refine lv_aload_n hx hb dX3_fixup_64 rfl (lv_at hl 3 rfl) ?_
          refine qst (C := "java/lang/Integer") hx hb hK hP hD hS 1 0 rfl rfl (bx.recv hK (hbk _ _ hS _ _ hy0)) (vb_asgC hG.N.toO) (by omega) (by omega) dX3_fixup_65 (fun H9 locs hP hD hS hoq => ?_)
          have hP : va_P G.1 vwCl [(h, .inr (0, [c0, .ref a, .int (nI n), .int (nI 16), .int (nI d)])), (a, .inl (G.2.1 0, qA (cap + 1) (va_up (f) (k) (some y0))))] H9 := hP
          have hD : va_D A [(h, .inr (0, [c0, .ref a, .int (nI n), .int (nI 16), .int (nI d)])), (a, .inl (G.2.1 0, qA (cap + 1) (va_up (f) (k) (some y0))))] := hD
          exact W.vret hx hb hr (fun t ht hW => ⟨⟨(va_up f k (some y0), va_up u k (v k0)), rfl, ⟨hC, fuI_stop hd (by omega) (fun z => c2 (hr8.mpr z)) hI⟩, by rw [ht]; exact hP, hD, by rw [ht]; exact (hbu.kept (hbk _ _ hS)).up (hbk _ _ hS _ _ hy0)⟩, hS.F ht⟩) hS.2.2 dX3_fixup_66
  exact loop (k0 + 1) k0 f v s.heap [] ls (Nat.lt_succ_self _) hk0 hkn (by rw [va_up_id]; exact hi) (fun z => by rw [va_up_id]) hbx hP hD hS (lv_sub hl [1, 2, 0] rfl)
set_option maxHeartbeats 4000000 in
set_option maxRecDepth 100000 in
/-- fixup: the key at k0 rises -/
theorem m_fupC (l : Launch) (G : gG) (H0 : Heap) (h a cap n d k0 : Nat) (f : Nat → Option Nat) (v : Nat → Int32) (hd : d = 2 ∨ d = 3) (hk0 : 1 ≤ k0) (hkn : k0 ≤ n) (hn : n ≤ cap) (hcap : cap ≤ 1000) (hi : fuI false d n k0 v) (hbx : bxs G H0 f n v) (hP : va_P G.1 vwCl (wH G h a cap n d (.ref (G.2.2 1)) f) H0) (hD : va_D (fun _ => True) (wH G h a cap n d (.ref (G.2.2 1)) f)) : Met l yX3_fixupWithComparator (ws_ yX3_fixupWithComparator cX3_fixupWithComparator 4 none) ({ frames := 3, cells := 0, slots := 0, locals := 66 }) (PcG G [.ref h, .int (nI k0)] H0 (va_A (wH G h a cap n d (.ref (G.2.2 1)) f) H0.size)) (QFx G false 1 h a cap n d (.ref (G.2.2 1)) v (va_A (wH G h a cap n d (.ref (G.2.2 1)) f) H0.size)) 0 0 (va_A (wH G h a cap n d (.ref (G.2.2 1)) f) H0.size) := by
  refine Met.ofW (cc := cX3_fixupWithComparator) (maxL := 4) (ret := none) (by decide) rfl ?_
  intro p e s m args below meth c s₁ B hml hv
  obtain ⟨rfl, rfl, hG⟩ := hv
  have hx := B.exec
  have hb := B.bytes
  have hr := B.returns
  have hts := atoms_spec (ws := ws_ yX3_fixupWithComparator cX3_fixupWithComparator 4 none) B.pre
  have hts : ∀ w ∈ lw_all, w.before _ s = true := fun w h => hts w (List.mem_cons_of_mem _ h)
  have hown : s.vm.findClass RX3 = some m.cls := findClass_of_methodNamed B.named
  have hlocks := B.notSynchronized
  have hK := hG.K
  have hbk : ∀ (H : Heap) (locs : List Loc), va_S (va_A (wH G h a cap n d (.ref (G.2.2 1)) f) s.heap.size) s.heap H locs → bK G s.heap H := fun H locs h => bK.of hK hP (wH_nI) h.2.1
  have hD := hD.self (sz := s.heap.size)
  generalize hAe : va_A (wH G h a cap n d (.ref (G.2.2 1)) f) s.heap.size = A at hD hG hbk ⊢
  have hA : ∀ q : Nat, s.heap.size ≤ q → A q := fun q h => by rw [← hAe]; exact Or.inr h
  have hS : va_S A s.heap s.heap [] := va_S.rf
  have hl := lv_entry ([.ref h, .int (nI k0)]) (n := 4) (Nat.le_of_ble_eq_true rfl)
  rw [lg_entry_eq]
  generalize (lg_sl ([.ref h, .int (nI k0)]) ++ List.replicate (4 - (lg_sl ([.ref h, .int (nI k0)])).length) Slot.unset).toArray = ls at hl ⊢
  have hl : lv_has ls 4 [(0, .ref h), (1, .int (nI k0))] := hl
  obtain ⟨y0, hf0, hy0⟩ := hbx k0 hk0 hkn
  refine lv_aload_n hx hb dX3_fixupWithComparator_0 rfl (lv_at hl 0 rfl) ?_
  refine va_get (D := G.1) (ci := 0) (v := .ref a) (C := RX3) (T := TX3) (N := 5) hx hb hts in_X3 hown hK hP 0 rfl rfl 1 (by decide) (hts _ q160) (fun x9 h9 => u_same (hts _ q161) x9 h9) rfl dX3_fixupWithComparator_1 ?_
  refine lv_iload_n hx hb dX3_fixupWithComparator_4 rfl (lv_at hl 1 rfl) ?_
  refine qld (y := y0) hx hb hK hP 1 0 rfl rfl (by omega) (by omega) (hf0) dX3_fixupWithComparator_5 ?_
  refine lv_astore_n (lv' := [(2, .ref y0), (0, .ref h), (1, .int (nI k0))]) hx hb dX3_fixupWithComparator_6 rfl hl (by decide) rfl (fun ls hl => ?_)
  have loop : ∀ (fuel k : Nat) (f : Nat → Option Nat) (u : Nat → Int32) (H : Heap) (locs : List Loc) (ls : Array Slot), k < fuel → 1 ≤ k → k ≤ n → fuI false d n k (va_up u k (v k0)) → (∀ z : Int32, cnt (va_up u k (v k0)) n z = cnt v n z) → bxs G s.heap f n u → va_P G.1 vwCl [(h, .inr (0, [(.ref (G.2.2 1)), .ref a, .int (nI n), .int (nI 16), .int (nI d)])), (a, .inl (G.2.1 0, qA (cap + 1) (f)))] H → va_D A [(h, .inr (0, [(.ref (G.2.2 1)), .ref a, .int (nI n), .int (nI 16), .int (nI d)])), (a, .inl (G.2.1 0, qA (cap + 1) (f)))] → va_S A s.heap H locs → lv_has ls 4 [(0, .ref h), (1, .int (nI k)), (2, .ref y0)] → W p l e (headSpec (ws_ yX3_fixupWithComparator cX3_fixupWithComparator 4 none) ({ frames := 3, cells := 0, slots := 0, locals := 66 })).room s m ([.ref h, .int (nI k0)] : List Value).toArray below meth c H locs 0 0 (MQ below (QFx G false 1 h a cap n d (.ref (G.2.2 1)) v (A)) ([.ref h, .int (nI k0)] : List Value).toArray s 0 0 A) (F0 m 7 ls []) := by
    intro fuel
    induction fuel with
    | zero =>
      intro k f u H locs ls hfu
      exact absurd hfu (Nat.not_lt_zero _)
    | succ fuel ih =>
      intro k f u H locs ls hfu hk1 hkn hI hC hbu hP hD hS hl
      refine lv_iload_n hx hb dX3_fixupWithComparator_7 rfl (lv_at hl 1 rfl) ?_
      refine lv_iconst (v := nI 1) hx hb dX3_fixupWithComparator_8 (by decide) ?_
      refine bn_le (tgt := 62) hx hb dX3_fixupWithComparator_9 (by decide) (by omega) (by omega) (fun c1 => ?_) (fun c1 => ?_)
      · have hk9 : k = 1 := by omega
        refine lv_aload_n hx hb dX3_fixupWithComparator_62 rfl (lv_at hl 0 rfl) ?_
        refine va_get (D := G.1) (ci := 0) (v := .ref a) (C := RX3) (T := TX3) (N := 5) hx hb hts in_X3 hown hK hP 0 rfl rfl 1 (by decide) (hts _ q160) (fun x9 h9 => u_same (hts _ q161) x9 h9) rfl dX3_fixupWithComparator_63 ?_
        refine lv_iload_n hx hb dX3_fixupWithComparator_66 rfl (lv_at hl 1 rfl) ?_
        refine lv_aload_n hx hb dX3_fixupWithComparator_67 rfl (lv_at hl 2 rfl) ?_
        refine qst (C := "java/lang/Integer") hx hb hK hP hD hS 1 0 rfl rfl (bx.recv hK (hbk _ _ hS _ _ hy0)) (vb_asgC hG.N.toO) (by omega) (by omega) dX3_fixupWithComparator_68 (fun H11 locs hP hD hS hoq => ?_)
        have hP : va_P G.1 vwCl [(h, .inr (0, [(.ref (G.2.2 1)), .ref a, .int (nI n), .int (nI 16), .int (nI d)])), (a, .inl (G.2.1 0, qA (cap + 1) (va_up (f) (k) (some y0))))] H11 := hP
        have hD : va_D A [(h, .inr (0, [(.ref (G.2.2 1)), .ref a, .int (nI n), .int (nI 16), .int (nI d)])), (a, .inl (G.2.1 0, qA (cap + 1) (va_up (f) (k) (some y0))))] := hD
        exact W.vret hx hb hr (fun t ht hW => ⟨⟨(va_up f k (some y0), va_up u k (v k0)), rfl, ⟨hC, fuI_one (by rw [hk9] at hI ⊢; exact hI)⟩, by rw [ht]; exact hP, hD, by rw [ht]; exact (hbu.kept (hbk _ _ hS)).up (hbk _ _ hS _ _ hy0)⟩, hS.F ht⟩) hS.2.2 dX3_fixupWithComparator_69
      · have hpl := pr_lt hd (i := k) (by omega)
        have hp1 := pr_pos d k
        obtain ⟨y1, hf1, hy1⟩ := hbu (pr d k) hp1 (by omega)
        refine lv_iload_n hx hb dX3_fixupWithComparator_12 rfl (lv_at hl 1 rfl) ?_
        refine lv_iconst (v := nI 2) hx hb dX3_fixupWithComparator_13 (by decide) ?_
        refine lv_isub hx hb dX3_fixupWithComparator_14 ?_
        refine lv_tn (nI (k - 2)) (pk_sub (by omega)) ?_
        refine lv_aload_n hx hb dX3_fixupWithComparator_15 rfl (lv_at hl 0 rfl) ?_
        refine va_get (D := G.1) (ci := 0) (v := .int (nI d)) (C := RX3) (T := TX3) (N := 5) hx hb hts in_X3 hown hK hP 0 rfl rfl 4 (by decide) (hts _ q152) (fun _ h9 => h9) rfl dX3_fixupWithComparator_16 ?_
        refine lv_idiv hx hb dX3_fixupWithComparator_19 (nI_ne0 (by omega) (by omega)) ?_
        refine lv_tn (nI ((k - 2) / (d))) (pk_div (by omega) (by omega) (by omega)) ?_
        refine lv_iconst (v := nI 1) hx hb dX3_fixupWithComparator_20 (by decide) ?_
        refine lv_iadd hx hb dX3_fixupWithComparator_21 ?_
        refine lv_tn (nI (pr d k)) (nI_add _ _) ?_
        refine lv_istore_n (lv' := [(3, .int (nI (pr d k))), (0, .ref h), (1, .int (nI k)), (2, .ref y0)]) hx hb dX3_fixupWithComparator_22 rfl hl (by decide) rfl (fun ls hl => ?_)
        refine lv_aload_n hx hb dX3_fixupWithComparator_23 rfl (lv_at hl 1 rfl) ?_
        refine va_get (D := G.1) (ci := 0) (v := (.ref (G.2.2 1))) (C := RX3) (T := TX3) (N := 5) hx hb hts in_X3 hown hK hP 0 rfl rfl 0 (by decide) (hts _ q156) (fun x9 h9 => u_same (hts _ q157) x9 h9) rfl dX3_fixupWithComparator_24 ?_
        refine lv_aload_n hx hb dX3_fixupWithComparator_27 rfl (lv_at hl 1 rfl) ?_
        refine va_get (D := G.1) (ci := 0) (v := .ref a) (C := RX3) (T := TX3) (N := 5) hx hb hts in_X3 hown hK hP 0 rfl rfl 1 (by decide) (hts _ q160) (fun x9 h9 => u_same (hts _ q161) x9 h9) rfl dX3_fixupWithComparator_28 ?_
        refine lv_iload_n hx hb dX3_fixupWithComparator_31 rfl (lv_at hl 0 rfl) ?_
        refine qld (y := y1) hx hb hK hP 1 0 rfl rfl (by omega) (by omega) (hf1) dX3_fixupWithComparator_32 ?_
        refine lv_aload_n hx hb dX3_fixupWithComparator_33 rfl (lv_at hl 3 rfl) ?_
        refine va_csFi (runF2 (As := [.ref y1, .ref y0]) (rest := []) ⟨hx, hb, hml, hown, hts⟩ (m_cmp1 l G _ y1 y0 (u (pr d k)) (v k0) (hbk _ _ hS _ _ hy1) (hbk _ _ hS _ _ hy0)) (va_cwF 2 hts (lw_F (C := "DaryArrayHeapDesk$Down") (x := yCmp) (y := yX5_compare) q278 q282 q284 q460 q286) rfl rfl rfl hG.N.fw (by decide +kernel) ⟨Nat.le_of_ble_eq_true rfl, Nat.le_of_ble_eq_true rfl⟩) (PcG.v (hG.down hS) (hG.ro hS)) rfl rfl hl.1 rfl (lv_room (Nat.le_of_ble_eq_true rfl)) dX3_fixupWithComparator_34 ⟨Nat.le_of_ble_eq_true rfl, Nat.le_of_ble_eq_true rfl⟩) (fun r12 hr12 => ?_)
        refine lv_if_gt (tgt := 45) hx hb dX3_fixupWithComparator_39 (by decide) (fun c2 => ?_) (fun c2 => ?_)
        · refine lv_aload_n hx hb dX3_fixupWithComparator_45 rfl (lv_at hl 1 rfl) ?_
          refine va_get (D := G.1) (ci := 0) (v := .ref a) (C := RX3) (T := TX3) (N := 5) hx hb hts in_X3 hown hK hP 0 rfl rfl 1 (by decide) (hts _ q160) (fun x9 h9 => u_same (hts _ q161) x9 h9) rfl dX3_fixupWithComparator_46 ?_
          refine lv_iload_n hx hb dX3_fixupWithComparator_49 rfl (lv_at hl 2 rfl) ?_
          refine lv_aload_n hx hb dX3_fixupWithComparator_50 rfl (lv_at hl 1 rfl) ?_
          refine va_get (D := G.1) (ci := 0) (v := .ref a) (C := RX3) (T := TX3) (N := 5) hx hb hts in_X3 hown hK hP 0 rfl rfl 1 (by decide) (hts _ q160) (fun x9 h9 => u_same (hts _ q161) x9 h9) rfl dX3_fixupWithComparator_51 ?_
          refine lv_iload_n hx hb dX3_fixupWithComparator_54 rfl (lv_at hl 0 rfl) ?_
          refine qld (y := y1) hx hb hK hP 1 0 rfl rfl (by omega) (by omega) (hf1) dX3_fixupWithComparator_55 ?_
          refine qst (C := "java/lang/Integer") hx hb hK hP hD hS 1 0 rfl rfl (bx.recv hK (hbk _ _ hS _ _ hy1)) (vb_asgC hG.N.toO) (by omega) (by omega) dX3_fixupWithComparator_56 (fun H14 locs hP hD hS hoq => ?_)
          have hP : va_P G.1 vwCl [(h, .inr (0, [(.ref (G.2.2 1)), .ref a, .int (nI n), .int (nI 16), .int (nI d)])), (a, .inl (G.2.1 0, qA (cap + 1) (va_up (f) (k) (some y1))))] H14 := hP
          have hD : va_D A [(h, .inr (0, [(.ref (G.2.2 1)), .ref a, .int (nI n), .int (nI 16), .int (nI d)])), (a, .inl (G.2.1 0, qA (cap + 1) (va_up (f) (k) (some y1))))] := hD
          refine lv_iload_n hx hb dX3_fixupWithComparator_57 rfl (lv_at hl 0 rfl) ?_
          refine lv_istore_n (lv' := [(1, .int (nI (pr d k))), (3, .int (nI (pr d k))), (0, .ref h), (2, .ref y0)]) hx hb dX3_fixupWithComparator_58 rfl hl (by decide) rfl (fun ls hl => ?_)
          refine lv_goto (tgt := 7) hx hb dX3_fixupWithComparator_59 (by decide) ?_
          exact ih (pr d k) _ (va_up u k (u (pr d k))) _ _ _ (by omega) hp1 (by omega) (fuI_step hd (by omega) hkn (hr12.mp c2) hI) (fun z => (cnt_mv z hk1 hkn hp1 (by omega) (by omega)).trans (hC z)) (hbu.up hy1) hP hD hS (lv_sub hl [2, 0, 3] rfl)
        · refine lv_goto (tgt := 62) hx hb dX3_fixupWithComparator_42 (by decide) ?_
          refine lv_aload_n hx hb dX3_fixupWithComparator_62 rfl (lv_at hl 1 rfl) ?_
          refine va_get (D := G.1) (ci := 0) (v := .ref a) (C := RX3) (T := TX3) (N := 5) hx hb hts in_X3 hown hK hP 0 rfl rfl 1 (by decide) (hts _ q160) (fun x9 h9 => u_same (hts _ q161) x9 h9) rfl dX3_fixupWithComparator_63 ?_
          refine lv_iload_n hx hb dX3_fixupWithComparator_66 rfl (lv_at hl 2 rfl) ?_
          refine lv_aload_n hx hb dX3_fixupWithComparator_67 rfl (lv_at hl 3 rfl) ?_
          refine qst (C := "java/lang/Integer") hx hb hK hP hD hS 1 0 rfl rfl (bx.recv hK (hbk _ _ hS _ _ hy0)) (vb_asgC hG.N.toO) (by omega) (by omega) dX3_fixupWithComparator_68 (fun H13 locs hP hD hS hoq => ?_)
          have hP : va_P G.1 vwCl [(h, .inr (0, [(.ref (G.2.2 1)), .ref a, .int (nI n), .int (nI 16), .int (nI d)])), (a, .inl (G.2.1 0, qA (cap + 1) (va_up (f) (k) (some y0))))] H13 := hP
          have hD : va_D A [(h, .inr (0, [(.ref (G.2.2 1)), .ref a, .int (nI n), .int (nI 16), .int (nI d)])), (a, .inl (G.2.1 0, qA (cap + 1) (va_up (f) (k) (some y0))))] := hD
          exact W.vret hx hb hr (fun t ht hW => ⟨⟨(va_up f k (some y0), va_up u k (v k0)), rfl, ⟨hC, fuI_stop hd (by omega) (fun z => c2 (hr12.mpr z)) hI⟩, by rw [ht]; exact hP, hD, by rw [ht]; exact (hbu.kept (hbk _ _ hS)).up (hbk _ _ hS _ _ hy0)⟩, hS.F ht⟩) hS.2.2 dX3_fixupWithComparator_69
  exact loop (k0 + 1) k0 f v s.heap [] ls (Nat.lt_succ_self _) hk0 hkn (by rw [va_up_id]; exact hi) (fun z => by rw [va_up_id]) hbx hP hD hS (lv_sub hl [1, 2, 0] rfl)
set_option maxHeartbeats 4000000 in
set_option maxRecDepth 100000 in
/-- fixdown: the key at k0 sinks -/
theorem m_fdn (l : Launch) (G : gG) (H0 : Heap) (h a cap n d k0 : Nat) (c0 : Value) (f : Nat → Option Nat) (v : Nat → Int32) (hd : d = 2 ∨ d = 3) (hk0 : 1 ≤ k0) (hkn : k0 ≤ n) (hn : n ≤ cap) (hcap : cap ≤ 1000) (hi : ho true d n (k0 + 1) v) (hbx : bxs G H0 f n v) (hP : va_P G.1 vwCl (wH G h a cap n d c0 f) H0) (hD : va_D (fun _ => True) (wH G h a cap n d c0 f)) : Met l yX3_fixdown (ws_ yX3_fixdown cX3_fixdown 6 none) ({ frames := 2, cells := 0, slots := 0, locals := 43 }) (PcG G [.ref h, .int (nI k0)] H0 (va_A (wH G h a cap n d c0 f) H0.size)) (QFx G true k0 h a cap n d c0 v (va_A (wH G h a cap n d c0 f) H0.size)) 0 0 (va_A (wH G h a cap n d c0 f) H0.size) := by
  refine Met.ofW (cc := cX3_fixdown) (maxL := 6) (ret := none) (by decide) rfl ?_
  intro p e s m args below meth c s₁ B hml hv
  obtain ⟨rfl, rfl, hG⟩ := hv
  have hx := B.exec
  have hb := B.bytes
  have hr := B.returns
  have hts := atoms_spec (ws := ws_ yX3_fixdown cX3_fixdown 6 none) B.pre
  have hts : ∀ w ∈ lw_all, w.before _ s = true := fun w h => hts w (List.mem_cons_of_mem _ h)
  have hown : s.vm.findClass RX3 = some m.cls := findClass_of_methodNamed B.named
  have hlocks := B.notSynchronized
  have hK := hG.K
  have hbk : ∀ (H : Heap) (locs : List Loc), va_S (va_A (wH G h a cap n d c0 f) s.heap.size) s.heap H locs → bK G s.heap H := fun H locs h => bK.of hK hP (wH_nI) h.2.1
  have hD := hD.self (sz := s.heap.size)
  generalize hAe : va_A (wH G h a cap n d c0 f) s.heap.size = A at hD hG hbk ⊢
  have hA : ∀ q : Nat, s.heap.size ≤ q → A q := fun q h => by rw [← hAe]; exact Or.inr h
  have hS : va_S A s.heap s.heap [] := va_S.rf
  have hl := lv_entry ([.ref h, .int (nI k0)]) (n := 6) (Nat.le_of_ble_eq_true rfl)
  rw [lg_entry_eq]
  generalize (lg_sl ([.ref h, .int (nI k0)]) ++ List.replicate (6 - (lg_sl ([.ref h, .int (nI k0)])).length) Slot.unset).toArray = ls at hl ⊢
  have hl : lv_has ls 6 [(0, .ref h), (1, .int (nI k0))] := hl
  obtain ⟨y0, hf0, hy0⟩ := hbx k0 hk0 hkn
  refine lv_aload_n hx hb dX3_fixdown_0 rfl (lv_at hl 0 rfl) ?_
  refine va_get (D := G.1) (ci := 0) (v := .ref a) (C := RX3) (T := TX3) (N := 5) hx hb hts in_X3 hown hK hP 0 rfl rfl 1 (by decide) (hts _ q160) (fun x9 h9 => u_same (hts _ q161) x9 h9) rfl dX3_fixdown_1 ?_
  refine lv_iload_n hx hb dX3_fixdown_4 rfl (lv_at hl 1 rfl) ?_
  refine qld (y := y0) hx hb hK hP 1 0 rfl rfl (by omega) (by omega) (hf0) dX3_fixdown_5 ?_
  refine lv_astore_n (lv' := [(3, .ref y0), (0, .ref h), (1, .int (nI k0))]) hx hb dX3_fixdown_6 rfl hl (by decide) rfl (fun ls hl => ?_)
  have loop : ∀ (fuel k : Nat) (f : Nat → Option Nat) (u : Nat → Int32) (H : Heap) (locs : List Loc) (ls : Array Slot), n - k < fuel → 1 ≤ k → k ≤ n → fdI true d n k0 k (va_up u k (v k0)) → (∀ z : Int32, cnt (va_up u k (v k0)) n z = cnt v n z) → bxs G s.heap f n u → va_P G.1 vwCl [(h, .inr (0, [c0, .ref a, .int (nI n), .int (nI 16), .int (nI d)])), (a, .inl (G.2.1 0, qA (cap + 1) (f)))] H → va_D A [(h, .inr (0, [c0, .ref a, .int (nI n), .int (nI 16), .int (nI d)])), (a, .inl (G.2.1 0, qA (cap + 1) (f)))] → va_S A s.heap H locs → lv_has ls 6 [(0, .ref h), (1, .int (nI k)), (3, .ref y0)] → W p l e (headSpec (ws_ yX3_fixdown cX3_fixdown 6 none) ({ frames := 2, cells := 0, slots := 0, locals := 43 })).room s m ([.ref h, .int (nI k0)] : List Value).toArray below meth c H locs 0 0 (MQ below (QFx G true k0 h a cap n d c0 v (A)) ([.ref h, .int (nI k0)] : List Value).toArray s 0 0 A) (F0 m 7 ls []) := by
    intro fuel
    induction fuel with
    | zero =>
      intro k f u H locs ls hfu
      exact absurd hfu (Nat.not_lt_zero _)
    | succ fuel ih =>
      intro k f u H locs ls hfu hk1 hkn hI hC hbu hP hD hS hl
      have hdk : d * (k - 1) ≤ 3 * k := by rcases hd with hd | hd <;> rw [hd] <;> omega
      have hdk2 : k ≤ d * (k - 1) + 1 := by rcases hd with hd | hd <;> rw [hd] <;> omega
      obtain ⟨ch, hch⟩ : ∃ ch : Nat, ch = d * (k - 1) + 2 := ⟨_, rfl⟩
      refine lv_aload_n hx hb dX3_fixdown_7 rfl (lv_at hl 0 rfl) ?_
      refine va_get (D := G.1) (ci := 0) (v := .int (nI d)) (C := RX3) (T := TX3) (N := 5) hx hb hts in_X3 hown hK hP 0 rfl rfl 4 (by decide) (hts _ q152) (fun _ h9 => h9) rfl dX3_fixdown_8 ?_
      refine lv_iload_n hx hb dX3_fixdown_11 rfl (lv_at hl 1 rfl) ?_
      refine lv_iconst (v := nI 1) hx hb dX3_fixdown_12 (by decide) ?_
      refine lv_isub hx hb dX3_fixdown_13 ?_
      refine lv_tn (nI (k - 1)) (pk_sub (by omega)) ?_
      refine lv_imul hx hb dX3_fixdown_14 ?_
      refine lv_tn (nI ((d) * (k - 1))) (pk_mul _ _) ?_
      refine lv_iconst (v := nI 2) hx hb dX3_fixdown_15 (by decide) ?_
      refine lv_iadd hx hb dX3_fixdown_16 ?_
      refine lv_tn (nI (ch)) ((nI_add _ _).trans (congrArg nI hch.symm)) ?_
      refine lv_dup hx hb dX3_fixdown_17 rfl ?_
      refine lv_istore_n (lv' := [(2, .int (nI ch)), (0, .ref h), (1, .int (nI k)), (3, .ref y0)]) hx hb dX3_fixdown_18 rfl hl (by decide) rfl (fun ls hl => ?_)
      refine lv_aload_n hx hb dX3_fixdown_19 rfl (lv_at hl 1 rfl) ?_
      refine va_get (D := G.1) (ci := 0) (v := .int (nI n)) (C := RX3) (T := TX3) (N := 5) hx hb hts in_X3 hown hK hP 0 rfl rfl 2 (by decide) (hts _ q165) (fun x9 h9 => u_same (hts _ q166) x9 h9) rfl dX3_fixdown_20 ?_
      refine bn_gt (tgt := 128) hx hb dX3_fixdown_23 (by decide) (by omega) (by omega) (fun c1 => ?_) (fun c1 => ?_)
      · refine lv_aload_n hx hb dX3_fixdown_128 rfl (lv_at hl 1 rfl) ?_
        refine va_get (D := G.1) (ci := 0) (v := .ref a) (C := RX3) (T := TX3) (N := 5) hx hb hts in_X3 hown hK hP 0 rfl rfl 1 (by decide) (hts _ q160) (fun x9 h9 => u_same (hts _ q161) x9 h9) rfl dX3_fixdown_129 ?_
        refine lv_iload_n hx hb dX3_fixdown_132 rfl (lv_at hl 2 rfl) ?_
        refine lv_aload_n hx hb dX3_fixdown_133 rfl (lv_at hl 3 rfl) ?_
        refine qst (C := "java/lang/Integer") hx hb hK hP hD hS 1 0 rfl rfl (bx.recv hK (hbk _ _ hS _ _ hy0)) (vb_asgC hG.N.toO) (by omega) (by omega) dX3_fixdown_134 (fun H15 locs hP hD hS hoq => ?_)
        have hP : va_P G.1 vwCl [(h, .inr (0, [c0, .ref a, .int (nI n), .int (nI 16), .int (nI d)])), (a, .inl (G.2.1 0, qA (cap + 1) (va_up (f) (k) (some y0))))] H15 := hP
        have hD : va_D A [(h, .inr (0, [c0, .ref a, .int (nI n), .int (nI 16), .int (nI d)])), (a, .inl (G.2.1 0, qA (cap + 1) (va_up (f) (k) (some y0))))] := hD
        exact W.vret hx hb hr (fun t ht hW => ⟨⟨(va_up f k (some y0), va_up u k (v k0)), rfl, ⟨hC, fdI_leaf hd hk1 (by omega) hI⟩, by rw [ht]; exact hP, hD, by rw [ht]; exact (hbu.kept (hbk _ _ hS)).up (hbk _ _ hS _ _ hy0)⟩, hS.F ht⟩) hS.2.2 dX3_fixdown_135
      · refine lv_iload_n hx hb dX3_fixdown_26 rfl (lv_at hl 0 rfl) ?_
        refine lv_istore (lv' := [(4, .int (nI ch)), (2, .int (nI ch)), (0, .ref h), (1, .int (nI k)), (3, .ref y0)]) hx hb dX3_fixdown_27 hl (by decide) rfl (fun ls hl => ?_)
        refine lv_iconst (v := nI 1) hx hb dX3_fixdown_29 (by decide) ?_
        refine lv_istore (lv' := [(5, .int (nI 1)), (4, .int (nI ch)), (2, .int (nI ch)), (0, .ref h), (1, .int (nI k)), (3, .ref y0)]) hx hb dX3_fixdown_30 hl (by decide) rfl (fun ls hl => ?_)
        have inner : ∀ (fi i mx : Nat) (ls : Array Slot), d - i < fi → 1 ≤ i → i ≤ d → ch ≤ mx → mx < ch + i → mx ≤ n → (∀ j : Nat, ch ≤ j → j < ch + i → j ≤ n → ky true (u mx) ≤ ky true (u j)) → lv_has ls 6 [(5, .int (nI i)), (4, .int (nI mx)), (2, .int (nI ch)), (0, .ref h), (1, .int (nI k)), (3, .ref y0)] → W p l e (headSpec (ws_ yX3_fixdown cX3_fixdown 6 none) ({ frames := 2, cells := 0, slots := 0, locals := 43 })).room s m ([.ref h, .int (nI k0)] : List Value).toArray below meth c H locs 0 0 (MQ below (QFx G true k0 h a cap n d c0 v (A)) ([.ref h, .int (nI k0)] : List Value).toArray s 0 0 A) (F0 m 32 ls []) := by
          intro fi
          induction fi with
          | zero =>
            intro i mx ls hfi
            exact absurd hfi (Nat.not_lt_zero _)
          | succ fi ihi =>
            intro i mx ls hfi hi1 hid hm1 hm2 hm3 hmin hl
            obtain ⟨ym, hfm, hym⟩ := hbu mx (by omega) hm3
            refine lv_iload hx hb dX3_fixdown_32 (lv_at hl 0 rfl) ?_
            refine lv_aload_n hx hb dX3_fixdown_34 rfl (lv_at hl 3 rfl) ?_
            refine va_get (D := G.1) (ci := 0) (v := .int (nI d)) (C := RX3) (T := TX3) (N := 5) hx hb hts in_X3 hown hK hP 0 rfl rfl 4 (by decide) (hts _ q152) (fun _ h9 => h9) rfl dX3_fixdown_35 ?_
            refine bn_ge (tgt := 89) hx hb dX3_fixdown_38 (by decide) (by omega) (by omega) (fun c3 => ?_) (fun c3 => ?_)
            · have hid9 : i = d := by omega
              subst hid9
              have hmin9 : ∀ j : Nat, 2 ≤ j → j ≤ n → pr i j = k → ky true (u mx) ≤ ky true (u j) := fun j j1 j2 j3 => by
                have j4 := (pr_iff hd j1 hk1).mp j3
                exact hmin j (by omega) (by omega) j2
              have hpm : pr i mx = k := (pr_iff hd (by omega) hk1).mpr ⟨by omega, by omega⟩
              refine lv_aload_n hx hb dX3_fixdown_89 rfl (lv_at hl 5 rfl) ?_
              refine va_castY (C := "java/lang/Integer") hx hb hown (hts _ q262) hG.N.toC (bx.recv hK (hbk _ _ hS _ _ hy0)) dX3_fixdown_90 ?_
              refine lv_aload_n hx hb dX3_fixdown_93 rfl (lv_at hl 3 rfl) ?_
              refine va_get (D := G.1) (ci := 0) (v := .ref a) (C := RX3) (T := TX3) (N := 5) hx hb hts in_X3 hown hK hP 0 rfl rfl 1 (by decide) (hts _ q160) (fun x9 h9 => u_same (hts _ q161) x9 h9) rfl dX3_fixdown_94 ?_
              refine lv_iload hx hb dX3_fixdown_97 (lv_at hl 1 rfl) ?_
              refine qld (y := ym) hx hb hK hP 1 0 rfl rfl (by omega) (by omega) (hfm) dX3_fixdown_99 ?_
              refine vp_callSi (va_Run.run (va_runS (As := [.ref y0, .ref ym]) (rest := []) ⟨hx, hb, hml, hown, hts⟩ (m_order l G _ y0 ym (v k0) (u mx) (hbk _ _ hS _ _ hy0) (hbk _ _ hS _ _ hym)) (va_cwS 2 hts (lw_S q263 q264 q4 q265) rfl rfl rfl (by decide +kernel) ⟨Nat.le_of_ble_eq_true rfl, Nat.le_of_ble_eq_true rfl⟩) (PcG.s (hG.ro hS)) rfl rfl hl.1 rfl (lv_room (Nat.le_of_ble_eq_true rfl)) dX3_fixdown_100 ⟨Nat.le_of_ble_eq_true rfl, Nat.le_of_ble_eq_true rfl⟩)) (fun r16 hr16 => ?_)
              refine lv_if_gt (tgt := 109) hx hb dX3_fixdown_103 (by decide) (fun c4 => ?_) (fun c4 => ?_)
              · refine lv_aload_n hx hb dX3_fixdown_109 rfl (lv_at hl 3 rfl) ?_
                refine va_get (D := G.1) (ci := 0) (v := .ref a) (C := RX3) (T := TX3) (N := 5) hx hb hts in_X3 hown hK hP 0 rfl rfl 1 (by decide) (hts _ q160) (fun x9 h9 => u_same (hts _ q161) x9 h9) rfl dX3_fixdown_110 ?_
                refine lv_iload_n hx hb dX3_fixdown_113 rfl (lv_at hl 4 rfl) ?_
                refine lv_aload_n hx hb dX3_fixdown_114 rfl (lv_at hl 3 rfl) ?_
                refine va_get (D := G.1) (ci := 0) (v := .ref a) (C := RX3) (T := TX3) (N := 5) hx hb hts in_X3 hown hK hP 0 rfl rfl 1 (by decide) (hts _ q160) (fun x9 h9 => u_same (hts _ q161) x9 h9) rfl dX3_fixdown_115 ?_
                refine lv_iload hx hb dX3_fixdown_118 (lv_at hl 1 rfl) ?_
                refine qld (y := ym) hx hb hK hP 1 0 rfl rfl (by omega) (by omega) (hfm) dX3_fixdown_120 ?_
                refine qst (C := "java/lang/Integer") hx hb hK hP hD hS 1 0 rfl rfl (bx.recv hK (hbk _ _ hS _ _ hym)) (vb_asgC hG.N.toO) (by omega) (by omega) dX3_fixdown_121 (fun H18 locs hP hD hS hoq => ?_)
                have hP : va_P G.1 vwCl [(h, .inr (0, [c0, .ref a, .int (nI n), .int (nI 16), .int (nI i)])), (a, .inl (G.2.1 0, qA (cap + 1) (va_up (f) (k) (some ym))))] H18 := hP
                have hD : va_D A [(h, .inr (0, [c0, .ref a, .int (nI n), .int (nI 16), .int (nI i)])), (a, .inl (G.2.1 0, qA (cap + 1) (va_up (f) (k) (some ym))))] := hD
                refine lv_iload hx hb dX3_fixdown_122 (lv_at hl 1 rfl) ?_
                refine lv_istore_n (lv' := [(1, .int (nI mx)), (5, .int (nI i)), (4, .int (nI mx)), (2, .int (nI ch)), (0, .ref h), (3, .ref y0)]) hx hb dX3_fixdown_124 rfl hl (by decide) rfl (fun ls hl => ?_)
                refine lv_goto (tgt := 7) hx hb dX3_fixdown_125 (by decide) ?_
                exact ih mx _ (va_up u k (u mx)) _ _ _ (by omega) (by omega) hm3 (fdI_step hd hk0 (by omega) hm3 hpm hmin9 (hr16.mp c4) hI) (fun z => (cnt_mv z hk1 hkn (by omega) hm3 (by omega)).trans (hC z)) (hbu.up hym) hP hD hS (lv_sub hl [4, 0, 5] rfl)
              · refine lv_goto (tgt := 128) hx hb dX3_fixdown_106 (by decide) ?_
                refine lv_aload_n hx hb dX3_fixdown_128 rfl (lv_at hl 3 rfl) ?_
                refine va_get (D := G.1) (ci := 0) (v := .ref a) (C := RX3) (T := TX3) (N := 5) hx hb hts in_X3 hown hK hP 0 rfl rfl 1 (by decide) (hts _ q160) (fun x9 h9 => u_same (hts _ q161) x9 h9) rfl dX3_fixdown_129 ?_
                refine lv_iload_n hx hb dX3_fixdown_132 rfl (lv_at hl 4 rfl) ?_
                refine lv_aload_n hx hb dX3_fixdown_133 rfl (lv_at hl 5 rfl) ?_
                refine qst (C := "java/lang/Integer") hx hb hK hP hD hS 1 0 rfl rfl (bx.recv hK (hbk _ _ hS _ _ hy0)) (vb_asgC hG.N.toO) (by omega) (by omega) dX3_fixdown_134 (fun H17 locs hP hD hS hoq => ?_)
                have hP : va_P G.1 vwCl [(h, .inr (0, [c0, .ref a, .int (nI n), .int (nI 16), .int (nI i)])), (a, .inl (G.2.1 0, qA (cap + 1) (va_up (f) (k) (some y0))))] H17 := hP
                have hD : va_D A [(h, .inr (0, [c0, .ref a, .int (nI n), .int (nI 16), .int (nI i)])), (a, .inl (G.2.1 0, qA (cap + 1) (va_up (f) (k) (some y0))))] := hD
                exact W.vret hx hb hr (fun t ht hW => ⟨⟨(va_up f k (some y0), va_up u k (v k0)), rfl, ⟨hC, fdI_stop hd hmin9 (fun z => c4 (hr16.mpr z)) hI⟩, by rw [ht]; exact hP, hD, by rw [ht]; exact (hbu.kept (hbk _ _ hS)).up (hbk _ _ hS _ _ hy0)⟩, hS.F ht⟩) hS.2.2 dX3_fixdown_135
            · refine lv_iload_n hx hb dX3_fixdown_41 rfl (lv_at hl 2 rfl) ?_
              refine lv_iload hx hb dX3_fixdown_42 (lv_at hl 0 rfl) ?_
              refine lv_iadd hx hb dX3_fixdown_44 ?_
              refine lv_tn (nI (ch + i)) (nI_add _ _) ?_
              refine lv_aload_n hx hb dX3_fixdown_45 rfl (lv_at hl 3 rfl) ?_
              refine va_get (D := G.1) (ci := 0) (v := .int (nI n)) (C := RX3) (T := TX3) (N := 5) hx hb hts in_X3 hown hK hP 0 rfl rfl 2 (by decide) (hts _ q165) (fun x9 h9 => u_same (hts _ q166) x9 h9) rfl dX3_fixdown_46 ?_
              refine bn_gt (tgt := 83) hx hb dX3_fixdown_49 (by decide) (by omega) (by omega) (fun c5 => ?_) (fun c5 => ?_)
              · refine lv_iinc (v := nI (i + 1)) (lv' := [(5, .int (nI (i + 1))), (4, .int (nI mx)), (2, .int (nI ch)), (0, .ref h), (1, .int (nI k)), (3, .ref y0)]) hx hb dX3_fixdown_83 hl (k := 0) rfl (by rw [show Int32.ofInt 1 = nI 1 from by decide]; exact nI_add (i) 1) (by decide) rfl (fun ls hl => ?_)
                refine lv_goto (tgt := 32) hx hb dX3_fixdown_86 (by decide) ?_
                exact ihi (i + 1) mx _ (by omega) (by omega) (by omega) (by omega) (by omega) (by omega) (fun j j1 j2 j3 => by
                  exact hmin j j1 (by omega) j3) (lv_sub hl [0, 1, 2, 3, 4, 5] rfl)
              · obtain ⟨yj, hfj, hyj⟩ := hbu (ch + i) (by omega) (by omega)
                refine lv_aload_n hx hb dX3_fixdown_52 rfl (lv_at hl 3 rfl) ?_
                refine va_get (D := G.1) (ci := 0) (v := .ref a) (C := RX3) (T := TX3) (N := 5) hx hb hts in_X3 hown hK hP 0 rfl rfl 1 (by decide) (hts _ q160) (fun x9 h9 => u_same (hts _ q161) x9 h9) rfl dX3_fixdown_53 ?_
                refine lv_iload hx hb dX3_fixdown_56 (lv_at hl 1 rfl) ?_
                refine qld (y := ym) hx hb hK hP 1 0 rfl rfl (by omega) (by omega) (hfm) dX3_fixdown_58 ?_
                refine va_castY (C := "java/lang/Integer") hx hb hown (hts _ q262) hG.N.toC (bx.recv hK (hbk _ _ hS _ _ hym)) dX3_fixdown_59 ?_
                refine lv_aload_n hx hb dX3_fixdown_62 rfl (lv_at hl 3 rfl) ?_
                refine va_get (D := G.1) (ci := 0) (v := .ref a) (C := RX3) (T := TX3) (N := 5) hx hb hts in_X3 hown hK hP 0 rfl rfl 1 (by decide) (hts _ q160) (fun x9 h9 => u_same (hts _ q161) x9 h9) rfl dX3_fixdown_63 ?_
                refine lv_iload_n hx hb dX3_fixdown_66 rfl (lv_at hl 2 rfl) ?_
                refine lv_iload hx hb dX3_fixdown_67 (lv_at hl 0 rfl) ?_
                refine lv_iadd hx hb dX3_fixdown_69 ?_
                refine lv_tn (nI (ch + i)) (nI_add _ _) ?_
                refine qld (y := yj) hx hb hK hP 1 0 rfl rfl (by omega) (by omega) (hfj) dX3_fixdown_70 ?_
                refine vp_callSi (va_Run.run (va_runS (As := [.ref ym, .ref yj]) (rest := []) ⟨hx, hb, hml, hown, hts⟩ (m_order l G _ ym yj (u mx) (u (ch + i)) (hbk _ _ hS _ _ hym) (hbk _ _ hS _ _ hyj)) (va_cwS 2 hts (lw_S q263 q264 q4 q265) rfl rfl rfl (by decide +kernel) ⟨Nat.le_of_ble_eq_true rfl, Nat.le_of_ble_eq_true rfl⟩) (PcG.s (hG.ro hS)) rfl rfl hl.1 rfl (lv_room (Nat.le_of_ble_eq_true rfl)) dX3_fixdown_71 ⟨Nat.le_of_ble_eq_true rfl, Nat.le_of_ble_eq_true rfl⟩)) (fun r19 hr19 => ?_)
                refine lv_if_le (tgt := 83) hx hb dX3_fixdown_74 (by decide) (fun c6 => ?_) (fun c6 => ?_)
                · refine lv_iinc (v := nI (i + 1)) (lv' := [(5, .int (nI (i + 1))), (4, .int (nI mx)), (2, .int (nI ch)), (0, .ref h), (1, .int (nI k)), (3, .ref y0)]) hx hb dX3_fixdown_83 hl (k := 0) rfl (by rw [show Int32.ofInt 1 = nI 1 from by decide]; exact nI_add (i) 1) (by decide) rfl (fun ls hl => ?_)
                  refine lv_goto (tgt := 32) hx hb dX3_fixdown_86 (by decide) ?_
                  exact ihi (i + 1) mx _ (by omega) (by omega) (by omega) (by omega) (by omega) (by omega) (fun j j1 j2 j3 => by
                    by_cases hj : j = ch + i
                    · rw [hj]; exact Int.not_lt.mp (fun z => absurd (hr19.mpr z) (Int32.not_lt.mpr c6))
                    · exact hmin j j1 (by omega) j3) (lv_sub hl [0, 1, 2, 3, 4, 5] rfl)
                · refine lv_iload_n hx hb dX3_fixdown_77 rfl (lv_at hl 2 rfl) ?_
                  refine lv_iload hx hb dX3_fixdown_78 (lv_at hl 0 rfl) ?_
                  refine lv_iadd hx hb dX3_fixdown_80 ?_
                  refine lv_tn (nI (ch + i)) (nI_add _ _) ?_
                  refine lv_istore (lv' := [(4, .int (nI (ch + i))), (5, .int (nI i)), (2, .int (nI ch)), (0, .ref h), (1, .int (nI k)), (3, .ref y0)]) hx hb dX3_fixdown_81 hl (by decide) rfl (fun ls hl => ?_)
                  refine lv_iinc (v := nI (i + 1)) (lv' := [(5, .int (nI (i + 1))), (4, .int (nI (ch + i))), (2, .int (nI ch)), (0, .ref h), (1, .int (nI k)), (3, .ref y0)]) hx hb dX3_fixdown_83 hl (k := 1) rfl (by rw [show Int32.ofInt 1 = nI 1 from by decide]; exact nI_add (i) 1) (by decide) rfl (fun ls hl => ?_)
                  refine lv_goto (tgt := 32) hx hb dX3_fixdown_86 (by decide) ?_
                  exact ihi (i + 1) (ch + i) _ (by omega) (by omega) (by omega) (by omega) (by omega) (by omega) (fun j j1 j2 j3 => by
                    have h9 : ky true (u (ch + i)) < ky true (u mx) := hr19.mp (Int32.not_le.mp c6)
                    by_cases hj : j = ch + i
                    · rw [hj]; exact Int.le_refl _
                    · exact Int.le_trans (Int.le_of_lt h9) (hmin j j1 (by omega) j3)) (lv_sub hl [0, 1, 2, 3, 4, 5] rfl)
        exact inner (d + 1) 1 ch _ (by omega) (Nat.le_refl 1) (by omega) (Nat.le_refl _) (by omega) (by omega) (fun j j1 j2 _ => by rw [show j = ch by omega]; exact Int.le_refl _) (lv_sub hl [0, 1, 2, 3, 4, 5] rfl)
  exact loop (n - k0 + 1) k0 f v s.heap [] ls (Nat.lt_succ_self _) hk0 hkn (by rw [va_up_id]; exact fdI_start hi) (fun z => by rw [va_up_id]) hbx hP hD hS (lv_sub hl [1, 2, 0] rfl)
set_option maxHeartbeats 4000000 in
set_option maxRecDepth 100000 in
/-- fixdown: the key at k0 sinks -/
theorem m_fdnC (l : Launch) (G : gG) (H0 : Heap) (h a cap n d k0 : Nat) (f : Nat → Option Nat) (v : Nat → Int32) (hd : d = 2 ∨ d = 3) (hk0 : 1 ≤ k0) (hkn : k0 ≤ n) (hn : n ≤ cap) (hcap : cap ≤ 1000) (hi : ho false d n (k0 + 1) v) (hbx : bxs G H0 f n v) (hP : va_P G.1 vwCl (wH G h a cap n d (.ref (G.2.2 1)) f) H0) (hD : va_D (fun _ => True) (wH G h a cap n d (.ref (G.2.2 1)) f)) : Met l yX3_fixdownWithComparator (ws_ yX3_fixdownWithComparator cX3_fixdownWithComparator 6 none) ({ frames := 3, cells := 0, slots := 0, locals := 66 }) (PcG G [.ref h, .int (nI k0)] H0 (va_A (wH G h a cap n d (.ref (G.2.2 1)) f) H0.size)) (QFx G false k0 h a cap n d (.ref (G.2.2 1)) v (va_A (wH G h a cap n d (.ref (G.2.2 1)) f) H0.size)) 0 0 (va_A (wH G h a cap n d (.ref (G.2.2 1)) f) H0.size) := by
  refine Met.ofW (cc := cX3_fixdownWithComparator) (maxL := 6) (ret := none) (by decide) rfl ?_
  intro p e s m args below meth c s₁ B hml hv
  obtain ⟨rfl, rfl, hG⟩ := hv
  have hx := B.exec
  have hb := B.bytes
  have hr := B.returns
  have hts := atoms_spec (ws := ws_ yX3_fixdownWithComparator cX3_fixdownWithComparator 6 none) B.pre
  have hts : ∀ w ∈ lw_all, w.before _ s = true := fun w h => hts w (List.mem_cons_of_mem _ h)
  have hown : s.vm.findClass RX3 = some m.cls := findClass_of_methodNamed B.named
  have hlocks := B.notSynchronized
  have hK := hG.K
  have hbk : ∀ (H : Heap) (locs : List Loc), va_S (va_A (wH G h a cap n d (.ref (G.2.2 1)) f) s.heap.size) s.heap H locs → bK G s.heap H := fun H locs h => bK.of hK hP (wH_nI) h.2.1
  have hD := hD.self (sz := s.heap.size)
  generalize hAe : va_A (wH G h a cap n d (.ref (G.2.2 1)) f) s.heap.size = A at hD hG hbk ⊢
  have hA : ∀ q : Nat, s.heap.size ≤ q → A q := fun q h => by rw [← hAe]; exact Or.inr h
  have hS : va_S A s.heap s.heap [] := va_S.rf
  have hl := lv_entry ([.ref h, .int (nI k0)]) (n := 6) (Nat.le_of_ble_eq_true rfl)
  rw [lg_entry_eq]
  generalize (lg_sl ([.ref h, .int (nI k0)]) ++ List.replicate (6 - (lg_sl ([.ref h, .int (nI k0)])).length) Slot.unset).toArray = ls at hl ⊢
  have hl : lv_has ls 6 [(0, .ref h), (1, .int (nI k0))] := hl
  obtain ⟨y0, hf0, hy0⟩ := hbx k0 hk0 hkn
  refine lv_aload_n hx hb dX3_fixdownWithComparator_0 rfl (lv_at hl 0 rfl) ?_
  refine va_get (D := G.1) (ci := 0) (v := .ref a) (C := RX3) (T := TX3) (N := 5) hx hb hts in_X3 hown hK hP 0 rfl rfl 1 (by decide) (hts _ q160) (fun x9 h9 => u_same (hts _ q161) x9 h9) rfl dX3_fixdownWithComparator_1 ?_
  refine lv_iload_n hx hb dX3_fixdownWithComparator_4 rfl (lv_at hl 1 rfl) ?_
  refine qld (y := y0) hx hb hK hP 1 0 rfl rfl (by omega) (by omega) (hf0) dX3_fixdownWithComparator_5 ?_
  refine lv_astore_n (lv' := [(3, .ref y0), (0, .ref h), (1, .int (nI k0))]) hx hb dX3_fixdownWithComparator_6 rfl hl (by decide) rfl (fun ls hl => ?_)
  have loop : ∀ (fuel k : Nat) (f : Nat → Option Nat) (u : Nat → Int32) (H : Heap) (locs : List Loc) (ls : Array Slot), n - k < fuel → 1 ≤ k → k ≤ n → fdI false d n k0 k (va_up u k (v k0)) → (∀ z : Int32, cnt (va_up u k (v k0)) n z = cnt v n z) → bxs G s.heap f n u → va_P G.1 vwCl [(h, .inr (0, [(.ref (G.2.2 1)), .ref a, .int (nI n), .int (nI 16), .int (nI d)])), (a, .inl (G.2.1 0, qA (cap + 1) (f)))] H → va_D A [(h, .inr (0, [(.ref (G.2.2 1)), .ref a, .int (nI n), .int (nI 16), .int (nI d)])), (a, .inl (G.2.1 0, qA (cap + 1) (f)))] → va_S A s.heap H locs → lv_has ls 6 [(0, .ref h), (1, .int (nI k)), (3, .ref y0)] → W p l e (headSpec (ws_ yX3_fixdownWithComparator cX3_fixdownWithComparator 6 none) ({ frames := 3, cells := 0, slots := 0, locals := 66 })).room s m ([.ref h, .int (nI k0)] : List Value).toArray below meth c H locs 0 0 (MQ below (QFx G false k0 h a cap n d (.ref (G.2.2 1)) v (A)) ([.ref h, .int (nI k0)] : List Value).toArray s 0 0 A) (F0 m 7 ls []) := by
    intro fuel
    induction fuel with
    | zero =>
      intro k f u H locs ls hfu
      exact absurd hfu (Nat.not_lt_zero _)
    | succ fuel ih =>
      intro k f u H locs ls hfu hk1 hkn hI hC hbu hP hD hS hl
      have hdk : d * (k - 1) ≤ 3 * k := by rcases hd with hd | hd <;> rw [hd] <;> omega
      have hdk2 : k ≤ d * (k - 1) + 1 := by rcases hd with hd | hd <;> rw [hd] <;> omega
      obtain ⟨ch, hch⟩ : ∃ ch : Nat, ch = d * (k - 1) + 2 := ⟨_, rfl⟩
      refine lv_aload_n hx hb dX3_fixdownWithComparator_7 rfl (lv_at hl 0 rfl) ?_
      refine va_get (D := G.1) (ci := 0) (v := .int (nI d)) (C := RX3) (T := TX3) (N := 5) hx hb hts in_X3 hown hK hP 0 rfl rfl 4 (by decide) (hts _ q152) (fun _ h9 => h9) rfl dX3_fixdownWithComparator_8 ?_
      refine lv_iload_n hx hb dX3_fixdownWithComparator_11 rfl (lv_at hl 1 rfl) ?_
      refine lv_iconst (v := nI 1) hx hb dX3_fixdownWithComparator_12 (by decide) ?_
      refine lv_isub hx hb dX3_fixdownWithComparator_13 ?_
      refine lv_tn (nI (k - 1)) (pk_sub (by omega)) ?_
      refine lv_imul hx hb dX3_fixdownWithComparator_14 ?_
      refine lv_tn (nI ((d) * (k - 1))) (pk_mul _ _) ?_
      refine lv_iconst (v := nI 2) hx hb dX3_fixdownWithComparator_15 (by decide) ?_
      refine lv_iadd hx hb dX3_fixdownWithComparator_16 ?_
      refine lv_tn (nI (ch)) ((nI_add _ _).trans (congrArg nI hch.symm)) ?_
      refine lv_dup hx hb dX3_fixdownWithComparator_17 rfl ?_
      refine lv_istore_n (lv' := [(2, .int (nI ch)), (0, .ref h), (1, .int (nI k)), (3, .ref y0)]) hx hb dX3_fixdownWithComparator_18 rfl hl (by decide) rfl (fun ls hl => ?_)
      refine lv_aload_n hx hb dX3_fixdownWithComparator_19 rfl (lv_at hl 1 rfl) ?_
      refine va_get (D := G.1) (ci := 0) (v := .int (nI n)) (C := RX3) (T := TX3) (N := 5) hx hb hts in_X3 hown hK hP 0 rfl rfl 2 (by decide) (hts _ q165) (fun x9 h9 => u_same (hts _ q166) x9 h9) rfl dX3_fixdownWithComparator_20 ?_
      refine bn_gt (tgt := 134) hx hb dX3_fixdownWithComparator_23 (by decide) (by omega) (by omega) (fun c1 => ?_) (fun c1 => ?_)
      · refine lv_aload_n hx hb dX3_fixdownWithComparator_134 rfl (lv_at hl 1 rfl) ?_
        refine va_get (D := G.1) (ci := 0) (v := .ref a) (C := RX3) (T := TX3) (N := 5) hx hb hts in_X3 hown hK hP 0 rfl rfl 1 (by decide) (hts _ q160) (fun x9 h9 => u_same (hts _ q161) x9 h9) rfl dX3_fixdownWithComparator_135 ?_
        refine lv_iload_n hx hb dX3_fixdownWithComparator_138 rfl (lv_at hl 2 rfl) ?_
        refine lv_aload_n hx hb dX3_fixdownWithComparator_139 rfl (lv_at hl 3 rfl) ?_
        refine qst (C := "java/lang/Integer") hx hb hK hP hD hS 1 0 rfl rfl (bx.recv hK (hbk _ _ hS _ _ hy0)) (vb_asgC hG.N.toO) (by omega) (by omega) dX3_fixdownWithComparator_140 (fun H20 locs hP hD hS hoq => ?_)
        have hP : va_P G.1 vwCl [(h, .inr (0, [(.ref (G.2.2 1)), .ref a, .int (nI n), .int (nI 16), .int (nI d)])), (a, .inl (G.2.1 0, qA (cap + 1) (va_up (f) (k) (some y0))))] H20 := hP
        have hD : va_D A [(h, .inr (0, [(.ref (G.2.2 1)), .ref a, .int (nI n), .int (nI 16), .int (nI d)])), (a, .inl (G.2.1 0, qA (cap + 1) (va_up (f) (k) (some y0))))] := hD
        exact W.vret hx hb hr (fun t ht hW => ⟨⟨(va_up f k (some y0), va_up u k (v k0)), rfl, ⟨hC, fdI_leaf hd hk1 (by omega) hI⟩, by rw [ht]; exact hP, hD, by rw [ht]; exact (hbu.kept (hbk _ _ hS)).up (hbk _ _ hS _ _ hy0)⟩, hS.F ht⟩) hS.2.2 dX3_fixdownWithComparator_141
      · refine lv_iload_n hx hb dX3_fixdownWithComparator_26 rfl (lv_at hl 0 rfl) ?_
        refine lv_istore (lv' := [(4, .int (nI ch)), (2, .int (nI ch)), (0, .ref h), (1, .int (nI k)), (3, .ref y0)]) hx hb dX3_fixdownWithComparator_27 hl (by decide) rfl (fun ls hl => ?_)
        refine lv_iconst (v := nI 1) hx hb dX3_fixdownWithComparator_29 (by decide) ?_
        refine lv_istore (lv' := [(5, .int (nI 1)), (4, .int (nI ch)), (2, .int (nI ch)), (0, .ref h), (1, .int (nI k)), (3, .ref y0)]) hx hb dX3_fixdownWithComparator_30 hl (by decide) rfl (fun ls hl => ?_)
        have inner : ∀ (fi i mx : Nat) (ls : Array Slot), d - i < fi → 1 ≤ i → i ≤ d → ch ≤ mx → mx < ch + i → mx ≤ n → (∀ j : Nat, ch ≤ j → j < ch + i → j ≤ n → ky false (u mx) ≤ ky false (u j)) → lv_has ls 6 [(5, .int (nI i)), (4, .int (nI mx)), (2, .int (nI ch)), (0, .ref h), (1, .int (nI k)), (3, .ref y0)] → W p l e (headSpec (ws_ yX3_fixdownWithComparator cX3_fixdownWithComparator 6 none) ({ frames := 3, cells := 0, slots := 0, locals := 66 })).room s m ([.ref h, .int (nI k0)] : List Value).toArray below meth c H locs 0 0 (MQ below (QFx G false k0 h a cap n d (.ref (G.2.2 1)) v (A)) ([.ref h, .int (nI k0)] : List Value).toArray s 0 0 A) (F0 m 32 ls []) := by
          intro fi
          induction fi with
          | zero =>
            intro i mx ls hfi
            exact absurd hfi (Nat.not_lt_zero _)
          | succ fi ihi =>
            intro i mx ls hfi hi1 hid hm1 hm2 hm3 hmin hl
            obtain ⟨ym, hfm, hym⟩ := hbu mx (by omega) hm3
            refine lv_iload hx hb dX3_fixdownWithComparator_32 (lv_at hl 0 rfl) ?_
            refine lv_aload_n hx hb dX3_fixdownWithComparator_34 rfl (lv_at hl 3 rfl) ?_
            refine va_get (D := G.1) (ci := 0) (v := .int (nI d)) (C := RX3) (T := TX3) (N := 5) hx hb hts in_X3 hown hK hP 0 rfl rfl 4 (by decide) (hts _ q152) (fun _ h9 => h9) rfl dX3_fixdownWithComparator_35 ?_
            refine bn_ge (tgt := 92) hx hb dX3_fixdownWithComparator_38 (by decide) (by omega) (by omega) (fun c3 => ?_) (fun c3 => ?_)
            · have hid9 : i = d := by omega
              subst hid9
              have hmin9 : ∀ j : Nat, 2 ≤ j → j ≤ n → pr i j = k → ky false (u mx) ≤ ky false (u j) := fun j j1 j2 j3 => by
                have j4 := (pr_iff hd j1 hk1).mp j3
                exact hmin j (by omega) (by omega) j2
              have hpm : pr i mx = k := (pr_iff hd (by omega) hk1).mpr ⟨by omega, by omega⟩
              refine lv_aload_n hx hb dX3_fixdownWithComparator_92 rfl (lv_at hl 3 rfl) ?_
              refine va_get (D := G.1) (ci := 0) (v := (.ref (G.2.2 1))) (C := RX3) (T := TX3) (N := 5) hx hb hts in_X3 hown hK hP 0 rfl rfl 0 (by decide) (hts _ q156) (fun x9 h9 => u_same (hts _ q157) x9 h9) rfl dX3_fixdownWithComparator_93 ?_
              refine lv_aload_n hx hb dX3_fixdownWithComparator_96 rfl (lv_at hl 5 rfl) ?_
              refine lv_aload_n hx hb dX3_fixdownWithComparator_97 rfl (lv_at hl 3 rfl) ?_
              refine va_get (D := G.1) (ci := 0) (v := .ref a) (C := RX3) (T := TX3) (N := 5) hx hb hts in_X3 hown hK hP 0 rfl rfl 1 (by decide) (hts _ q160) (fun x9 h9 => u_same (hts _ q161) x9 h9) rfl dX3_fixdownWithComparator_98 ?_
              refine lv_iload hx hb dX3_fixdownWithComparator_101 (lv_at hl 1 rfl) ?_
              refine qld (y := ym) hx hb hK hP 1 0 rfl rfl (by omega) (by omega) (hfm) dX3_fixdownWithComparator_103 ?_
              refine va_csFi (runF2 (As := [.ref y0, .ref ym]) (rest := []) ⟨hx, hb, hml, hown, hts⟩ (m_cmp1 l G _ y0 ym (v k0) (u mx) (hbk _ _ hS _ _ hy0) (hbk _ _ hS _ _ hym)) (va_cwF 2 hts (lw_F (C := "DaryArrayHeapDesk$Down") (x := yCmp) (y := yX5_compare) q278 q282 q284 q460 q286) rfl rfl rfl hG.N.fw (by decide +kernel) ⟨Nat.le_of_ble_eq_true rfl, Nat.le_of_ble_eq_true rfl⟩) (PcG.v (hG.down hS) (hG.ro hS)) rfl rfl hl.1 rfl (lv_room (Nat.le_of_ble_eq_true rfl)) dX3_fixdownWithComparator_104 ⟨Nat.le_of_ble_eq_true rfl, Nat.le_of_ble_eq_true rfl⟩) (fun r21 hr21 => ?_)
              refine lv_if_gt (tgt := 115) hx hb dX3_fixdownWithComparator_109 (by decide) (fun c4 => ?_) (fun c4 => ?_)
              · refine lv_aload_n hx hb dX3_fixdownWithComparator_115 rfl (lv_at hl 3 rfl) ?_
                refine va_get (D := G.1) (ci := 0) (v := .ref a) (C := RX3) (T := TX3) (N := 5) hx hb hts in_X3 hown hK hP 0 rfl rfl 1 (by decide) (hts _ q160) (fun x9 h9 => u_same (hts _ q161) x9 h9) rfl dX3_fixdownWithComparator_116 ?_
                refine lv_iload_n hx hb dX3_fixdownWithComparator_119 rfl (lv_at hl 4 rfl) ?_
                refine lv_aload_n hx hb dX3_fixdownWithComparator_120 rfl (lv_at hl 3 rfl) ?_
                refine va_get (D := G.1) (ci := 0) (v := .ref a) (C := RX3) (T := TX3) (N := 5) hx hb hts in_X3 hown hK hP 0 rfl rfl 1 (by decide) (hts _ q160) (fun x9 h9 => u_same (hts _ q161) x9 h9) rfl dX3_fixdownWithComparator_121 ?_
                refine lv_iload hx hb dX3_fixdownWithComparator_124 (lv_at hl 1 rfl) ?_
                refine qld (y := ym) hx hb hK hP 1 0 rfl rfl (by omega) (by omega) (hfm) dX3_fixdownWithComparator_126 ?_
                refine qst (C := "java/lang/Integer") hx hb hK hP hD hS 1 0 rfl rfl (bx.recv hK (hbk _ _ hS _ _ hym)) (vb_asgC hG.N.toO) (by omega) (by omega) dX3_fixdownWithComparator_127 (fun H23 locs hP hD hS hoq => ?_)
                have hP : va_P G.1 vwCl [(h, .inr (0, [(.ref (G.2.2 1)), .ref a, .int (nI n), .int (nI 16), .int (nI i)])), (a, .inl (G.2.1 0, qA (cap + 1) (va_up (f) (k) (some ym))))] H23 := hP
                have hD : va_D A [(h, .inr (0, [(.ref (G.2.2 1)), .ref a, .int (nI n), .int (nI 16), .int (nI i)])), (a, .inl (G.2.1 0, qA (cap + 1) (va_up (f) (k) (some ym))))] := hD
                refine lv_iload hx hb dX3_fixdownWithComparator_128 (lv_at hl 1 rfl) ?_
                refine lv_istore_n (lv' := [(1, .int (nI mx)), (5, .int (nI i)), (4, .int (nI mx)), (2, .int (nI ch)), (0, .ref h), (3, .ref y0)]) hx hb dX3_fixdownWithComparator_130 rfl hl (by decide) rfl (fun ls hl => ?_)
                refine lv_goto (tgt := 7) hx hb dX3_fixdownWithComparator_131 (by decide) ?_
                exact ih mx _ (va_up u k (u mx)) _ _ _ (by omega) (by omega) hm3 (fdI_step hd hk0 (by omega) hm3 hpm hmin9 (hr21.mp c4) hI) (fun z => (cnt_mv z hk1 hkn (by omega) hm3 (by omega)).trans (hC z)) (hbu.up hym) hP hD hS (lv_sub hl [4, 0, 5] rfl)
              · refine lv_goto (tgt := 134) hx hb dX3_fixdownWithComparator_112 (by decide) ?_
                refine lv_aload_n hx hb dX3_fixdownWithComparator_134 rfl (lv_at hl 3 rfl) ?_
                refine va_get (D := G.1) (ci := 0) (v := .ref a) (C := RX3) (T := TX3) (N := 5) hx hb hts in_X3 hown hK hP 0 rfl rfl 1 (by decide) (hts _ q160) (fun x9 h9 => u_same (hts _ q161) x9 h9) rfl dX3_fixdownWithComparator_135 ?_
                refine lv_iload_n hx hb dX3_fixdownWithComparator_138 rfl (lv_at hl 4 rfl) ?_
                refine lv_aload_n hx hb dX3_fixdownWithComparator_139 rfl (lv_at hl 5 rfl) ?_
                refine qst (C := "java/lang/Integer") hx hb hK hP hD hS 1 0 rfl rfl (bx.recv hK (hbk _ _ hS _ _ hy0)) (vb_asgC hG.N.toO) (by omega) (by omega) dX3_fixdownWithComparator_140 (fun H22 locs hP hD hS hoq => ?_)
                have hP : va_P G.1 vwCl [(h, .inr (0, [(.ref (G.2.2 1)), .ref a, .int (nI n), .int (nI 16), .int (nI i)])), (a, .inl (G.2.1 0, qA (cap + 1) (va_up (f) (k) (some y0))))] H22 := hP
                have hD : va_D A [(h, .inr (0, [(.ref (G.2.2 1)), .ref a, .int (nI n), .int (nI 16), .int (nI i)])), (a, .inl (G.2.1 0, qA (cap + 1) (va_up (f) (k) (some y0))))] := hD
                exact W.vret hx hb hr (fun t ht hW => ⟨⟨(va_up f k (some y0), va_up u k (v k0)), rfl, ⟨hC, fdI_stop hd hmin9 (fun z => c4 (hr21.mpr z)) hI⟩, by rw [ht]; exact hP, hD, by rw [ht]; exact (hbu.kept (hbk _ _ hS)).up (hbk _ _ hS _ _ hy0)⟩, hS.F ht⟩) hS.2.2 dX3_fixdownWithComparator_141
            · refine lv_iload_n hx hb dX3_fixdownWithComparator_41 rfl (lv_at hl 2 rfl) ?_
              refine lv_iload hx hb dX3_fixdownWithComparator_42 (lv_at hl 0 rfl) ?_
              refine lv_iadd hx hb dX3_fixdownWithComparator_44 ?_
              refine lv_tn (nI (ch + i)) (nI_add _ _) ?_
              refine lv_aload_n hx hb dX3_fixdownWithComparator_45 rfl (lv_at hl 3 rfl) ?_
              refine va_get (D := G.1) (ci := 0) (v := .int (nI n)) (C := RX3) (T := TX3) (N := 5) hx hb hts in_X3 hown hK hP 0 rfl rfl 2 (by decide) (hts _ q165) (fun x9 h9 => u_same (hts _ q166) x9 h9) rfl dX3_fixdownWithComparator_46 ?_
              refine bn_gt (tgt := 86) hx hb dX3_fixdownWithComparator_49 (by decide) (by omega) (by omega) (fun c5 => ?_) (fun c5 => ?_)
              · refine lv_iinc (v := nI (i + 1)) (lv' := [(5, .int (nI (i + 1))), (4, .int (nI mx)), (2, .int (nI ch)), (0, .ref h), (1, .int (nI k)), (3, .ref y0)]) hx hb dX3_fixdownWithComparator_86 hl (k := 0) rfl (by rw [show Int32.ofInt 1 = nI 1 from by decide]; exact nI_add (i) 1) (by decide) rfl (fun ls hl => ?_)
                refine lv_goto (tgt := 32) hx hb dX3_fixdownWithComparator_89 (by decide) ?_
                exact ihi (i + 1) mx _ (by omega) (by omega) (by omega) (by omega) (by omega) (by omega) (fun j j1 j2 j3 => by
                  exact hmin j j1 (by omega) j3) (lv_sub hl [0, 1, 2, 3, 4, 5] rfl)
              · obtain ⟨yj, hfj, hyj⟩ := hbu (ch + i) (by omega) (by omega)
                refine lv_aload_n hx hb dX3_fixdownWithComparator_52 rfl (lv_at hl 3 rfl) ?_
                refine va_get (D := G.1) (ci := 0) (v := (.ref (G.2.2 1))) (C := RX3) (T := TX3) (N := 5) hx hb hts in_X3 hown hK hP 0 rfl rfl 0 (by decide) (hts _ q156) (fun x9 h9 => u_same (hts _ q157) x9 h9) rfl dX3_fixdownWithComparator_53 ?_
                refine lv_aload_n hx hb dX3_fixdownWithComparator_56 rfl (lv_at hl 3 rfl) ?_
                refine va_get (D := G.1) (ci := 0) (v := .ref a) (C := RX3) (T := TX3) (N := 5) hx hb hts in_X3 hown hK hP 0 rfl rfl 1 (by decide) (hts _ q160) (fun x9 h9 => u_same (hts _ q161) x9 h9) rfl dX3_fixdownWithComparator_57 ?_
                refine lv_iload hx hb dX3_fixdownWithComparator_60 (lv_at hl 1 rfl) ?_
                refine qld (y := ym) hx hb hK hP 1 0 rfl rfl (by omega) (by omega) (hfm) dX3_fixdownWithComparator_62 ?_
                refine lv_aload_n hx hb dX3_fixdownWithComparator_63 rfl (lv_at hl 3 rfl) ?_
                refine va_get (D := G.1) (ci := 0) (v := .ref a) (C := RX3) (T := TX3) (N := 5) hx hb hts in_X3 hown hK hP 0 rfl rfl 1 (by decide) (hts _ q160) (fun x9 h9 => u_same (hts _ q161) x9 h9) rfl dX3_fixdownWithComparator_64 ?_
                refine lv_iload_n hx hb dX3_fixdownWithComparator_67 rfl (lv_at hl 2 rfl) ?_
                refine lv_iload hx hb dX3_fixdownWithComparator_68 (lv_at hl 0 rfl) ?_
                refine lv_iadd hx hb dX3_fixdownWithComparator_70 ?_
                refine lv_tn (nI (ch + i)) (nI_add _ _) ?_
                refine qld (y := yj) hx hb hK hP 1 0 rfl rfl (by omega) (by omega) (hfj) dX3_fixdownWithComparator_71 ?_
                refine va_csFi (runF2 (As := [.ref ym, .ref yj]) (rest := []) ⟨hx, hb, hml, hown, hts⟩ (m_cmp1 l G _ ym yj (u mx) (u (ch + i)) (hbk _ _ hS _ _ hym) (hbk _ _ hS _ _ hyj)) (va_cwF 2 hts (lw_F (C := "DaryArrayHeapDesk$Down") (x := yCmp) (y := yX5_compare) q278 q282 q284 q460 q286) rfl rfl rfl hG.N.fw (by decide +kernel) ⟨Nat.le_of_ble_eq_true rfl, Nat.le_of_ble_eq_true rfl⟩) (PcG.v (hG.down hS) (hG.ro hS)) rfl rfl hl.1 rfl (lv_room (Nat.le_of_ble_eq_true rfl)) dX3_fixdownWithComparator_72 ⟨Nat.le_of_ble_eq_true rfl, Nat.le_of_ble_eq_true rfl⟩) (fun r24 hr24 => ?_)
                refine lv_if_le (tgt := 86) hx hb dX3_fixdownWithComparator_77 (by decide) (fun c6 => ?_) (fun c6 => ?_)
                · refine lv_iinc (v := nI (i + 1)) (lv' := [(5, .int (nI (i + 1))), (4, .int (nI mx)), (2, .int (nI ch)), (0, .ref h), (1, .int (nI k)), (3, .ref y0)]) hx hb dX3_fixdownWithComparator_86 hl (k := 0) rfl (by rw [show Int32.ofInt 1 = nI 1 from by decide]; exact nI_add (i) 1) (by decide) rfl (fun ls hl => ?_)
                  refine lv_goto (tgt := 32) hx hb dX3_fixdownWithComparator_89 (by decide) ?_
                  exact ihi (i + 1) mx _ (by omega) (by omega) (by omega) (by omega) (by omega) (by omega) (fun j j1 j2 j3 => by
                    by_cases hj : j = ch + i
                    · rw [hj]; exact Int.not_lt.mp (fun z => absurd (hr24.mpr z) (Int32.not_lt.mpr c6))
                    · exact hmin j j1 (by omega) j3) (lv_sub hl [0, 1, 2, 3, 4, 5] rfl)
                · refine lv_iload_n hx hb dX3_fixdownWithComparator_80 rfl (lv_at hl 2 rfl) ?_
                  refine lv_iload hx hb dX3_fixdownWithComparator_81 (lv_at hl 0 rfl) ?_
                  refine lv_iadd hx hb dX3_fixdownWithComparator_83 ?_
                  refine lv_tn (nI (ch + i)) (nI_add _ _) ?_
                  refine lv_istore (lv' := [(4, .int (nI (ch + i))), (5, .int (nI i)), (2, .int (nI ch)), (0, .ref h), (1, .int (nI k)), (3, .ref y0)]) hx hb dX3_fixdownWithComparator_84 hl (by decide) rfl (fun ls hl => ?_)
                  refine lv_iinc (v := nI (i + 1)) (lv' := [(5, .int (nI (i + 1))), (4, .int (nI (ch + i))), (2, .int (nI ch)), (0, .ref h), (1, .int (nI k)), (3, .ref y0)]) hx hb dX3_fixdownWithComparator_86 hl (k := 1) rfl (by rw [show Int32.ofInt 1 = nI 1 from by decide]; exact nI_add (i) 1) (by decide) rfl (fun ls hl => ?_)
                  refine lv_goto (tgt := 32) hx hb dX3_fixdownWithComparator_89 (by decide) ?_
                  exact ihi (i + 1) (ch + i) _ (by omega) (by omega) (by omega) (by omega) (by omega) (by omega) (fun j j1 j2 j3 => by
                    have h9 : ky false (u (ch + i)) < ky false (u mx) := hr24.mp (Int32.not_le.mp c6)
                    by_cases hj : j = ch + i
                    · rw [hj]; exact Int.le_refl _
                    · exact Int.le_trans (Int.le_of_lt h9) (hmin j j1 (by omega) j3)) (lv_sub hl [0, 1, 2, 3, 4, 5] rfl)
        exact inner (d + 1) 1 ch _ (by omega) (Nat.le_refl 1) (by omega) (Nat.le_refl _) (by omega) (by omega) (fun j j1 j2 _ => by rw [show j = ch by omega]; exact Int.le_refl _) (lv_sub hl [0, 1, 2, 3, 4, 5] rfl)
  exact loop (n - k0 + 1) k0 f v s.heap [] ls (Nat.lt_succ_self _) hk0 hkn (by rw [va_up_id]; exact fdI_start hi) (fun z => by rw [va_up_id]) hbx hP hD hS (lv_sub hl [1, 2, 0] rfl)
end
section
/-! the small methods of the heap: isEmpty, size, clear, findMin, checkCapacity, the constructors, ensureCapacity -/
set_option maxRecDepth 100000
def cV (G : gG) (up : Bool) : Value := match up with
  | true => .null
  | false => .ref (G.2.2 1)
abbrev oH (h a n d : Nat) (c0 : Value) : Nat × va_E := (h, .inr (0, [c0, .ref a, .int (nI n), .int (nI 16), .int (nI d)]))
theorem max16 {c : Nat} (hc : c ≤ 16) : (if nI c < nI 16 then nI 16 else nI c) = nI 16 := by
  by_cases h : c = 16
  · rw [h]; exact if_neg Int32.lt_irrefl
  · exact if_pos ((nI_ltI (by omega) (by decide)).mpr (by omega))
set_option maxHeartbeats 4000000 in
set_option maxRecDepth 100000 in
/-- isEmpty() -/
theorem m_hEmpty (l : Launch) (G : gG) (H0 : Heap) (h a n d : Nat) (c0 : Value) (hn : n ≤ 1000) (hP : va_P G.1 vwCl [oH h a n d c0] H0) : Met l yX1_isEmpty (ws_ yX1_isEmpty cX1_isEmpty 1 (some .boolean)) ({ frames := 0, cells := 0, slots := 0, locals := 0 }) (PcG G [.ref h] H0 (fun _ => False)) (vp_Si (fun x => x = nI (if n = 0 then 1 else 0))) 0 0 (fun _ => False) := by
  refine Met.ofW (cc := cX1_isEmpty) (maxL := 1) (ret := (some .boolean)) (by decide) rfl ?_
  intro p e s m args below meth c s₁ B hml hv
  obtain ⟨rfl, rfl, hG⟩ := hv
  have hx := B.exec
  have hb := B.bytes
  have hr := B.returns
  have hts := atoms_spec (ws := ws_ yX1_isEmpty cX1_isEmpty 1 (some .boolean)) B.pre
  have hts : ∀ w ∈ lw_all, w.before _ s = true := fun w h => hts w (List.mem_cons_of_mem _ h)
  have hown : s.vm.findClass RX1 = some m.cls := findClass_of_methodNamed B.named
  have hlocks := B.notSynchronized
  have hK := hG.K
  have hS : va_S (fun _ => False) s.heap s.heap [] := va_S.rf
  have hl := lv_entry ([.ref h]) (n := 1) (Nat.le_of_ble_eq_true rfl)
  rw [lg_entry_eq]
  generalize (lg_sl ([.ref h]) ++ List.replicate (1 - (lg_sl ([.ref h])).length) Slot.unset).toArray = ls at hl ⊢
  have hl : lv_has ls 1 [(0, .ref h)] := hl
  refine lv_aload_n hx hb dX1_isEmpty_0 rfl (lv_at hl 0 rfl) ?_
  refine va_get (D := G.1) (ci := 0) (v := .int (nI n)) (C := RX3) (T := TX3) (N := 5) hx hb hts in_X3 hown hK hP 0 rfl rfl 2 (by decide) (hts _ q162) (fun _ h9 => h9) rfl dX1_isEmpty_1 ?_
  refine bz_ne (tgt := 11) hx hb dX1_isEmpty_4 (by decide) (by omega) (fun c1 => ?_) (fun c1 => ?_)
  · refine lv_iconst (v := nI 0) hx hb dX1_isEmpty_11 (by decide) ?_
    exact W.zret (v := nI 0) hx hb hr rfl (fun t ht hW => ⟨nI 0, rfl, by rw [if_neg c1], ht⟩) hS.2.2 dX1_isEmpty_12
  · refine lv_iconst (v := nI 1) hx hb dX1_isEmpty_7 (by decide) ?_
    refine lv_goto (tgt := 12) hx hb dX1_isEmpty_8 (by decide) ?_
    exact W.zret (v := nI 1) hx hb hr rfl (fun t ht hW => ⟨nI 1, rfl, by rw [if_pos c1], ht⟩) hS.2.2 dX1_isEmpty_12
set_option maxHeartbeats 4000000 in
set_option maxRecDepth 100000 in
/-- size() -/
theorem m_hSize (l : Launch) (G : gG) (H0 : Heap) (h a n d : Nat) (c0 : Value) (hn : n ≤ 1000) (hP : va_P G.1 vwCl [oH h a n d c0] H0) : Met l yX1_size (ws_ yX1_size cX1_size 1 (some .long)) ({ frames := 0, cells := 0, slots := 0, locals := 0 }) (PcG G [.ref h] H0 (fun _ => False)) (vp_Sl (fun x => x = lN n)) 0 0 (fun _ => False) := by
  refine Met.ofW (cc := cX1_size) (maxL := 1) (ret := (some .long)) (by decide) rfl ?_
  intro p e s m args below meth c s₁ B hml hv
  obtain ⟨rfl, rfl, hG⟩ := hv
  have hx := B.exec
  have hb := B.bytes
  have hr := B.returns
  have hts := atoms_spec (ws := ws_ yX1_size cX1_size 1 (some .long)) B.pre
  have hts : ∀ w ∈ lw_all, w.before _ s = true := fun w h => hts w (List.mem_cons_of_mem _ h)
  have hown : s.vm.findClass RX1 = some m.cls := findClass_of_methodNamed B.named
  have hlocks := B.notSynchronized
  have hK := hG.K
  have hS : va_S (fun _ => False) s.heap s.heap [] := va_S.rf
  have hl := lv_entry ([.ref h]) (n := 1) (Nat.le_of_ble_eq_true rfl)
  rw [lg_entry_eq]
  generalize (lg_sl ([.ref h]) ++ List.replicate (1 - (lg_sl ([.ref h])).length) Slot.unset).toArray = ls at hl ⊢
  have hl : lv_has ls 1 [(0, .ref h)] := hl
  refine lv_aload_n hx hb dX1_size_0 rfl (lv_at hl 0 rfl) ?_
  refine va_get (D := G.1) (ci := 0) (v := .int (nI n)) (C := RX3) (T := TX3) (N := 5) hx hb hts in_X3 hown hK hP 0 rfl rfl 2 (by decide) (hts _ q162) (fun _ h9 => h9) rfl dX1_size_1 ?_
  refine lv_i2l (v := lN n) hx hb dX1_size_4 (nI_l (by omega)) ?_
  exact W.lret (v := lN n) hx hb hr (fun t ht hW => ⟨lN n, rfl, rfl, ht⟩) hS.2.2 dX1_size_5
set_option maxHeartbeats 4000000 in
set_option maxRecDepth 100000 in
/-- findMin() of a heap that holds something -/
theorem m_hMin (l : Launch) (G : gG) (H0 : Heap) (h a cap n d : Nat) (c0 : Value) (f : Nat → Option Nat) (v : Nat → Int32) (hn1 : 1 ≤ n) (hn : n ≤ cap) (hcap : cap ≤ 1000) (hbx : bxs G H0 f n v) (hP : va_P G.1 vwCl (wH G h a cap n d c0 f) H0) : Met l yX2_findMin (ws_ yX2_findMin cX2_findMin 1 (some (.object "java/lang/Object"))) ({ frames := 0, cells := 0, slots := 0, locals := 0 }) (PcG G [.ref h] H0 (fun _ => False)) (va_Sr (fun y => bx G H0 y (v 1)) (fun y => .ref y)) 0 0 (fun _ => False) := by
  refine Met.ofW (cc := cX2_findMin) (maxL := 1) (ret := (some (.object "java/lang/Object"))) (by decide) rfl ?_
  intro p e s m args below meth c s₁ B hml hv
  obtain ⟨rfl, rfl, hG⟩ := hv
  have hx := B.exec
  have hb := B.bytes
  have hr := B.returns
  have hts := atoms_spec (ws := ws_ yX2_findMin cX2_findMin 1 (some (.object "java/lang/Object"))) B.pre
  have hts : ∀ w ∈ lw_all, w.before _ s = true := fun w h => hts w (List.mem_cons_of_mem _ h)
  have hown : s.vm.findClass RX2 = some m.cls := findClass_of_methodNamed B.named
  have hlocks := B.notSynchronized
  have hK := hG.K
  have hS : va_S (fun _ => False) s.heap s.heap [] := va_S.rf
  have hl := lv_entry ([.ref h]) (n := 1) (Nat.le_of_ble_eq_true rfl)
  rw [lg_entry_eq]
  generalize (lg_sl ([.ref h]) ++ List.replicate (1 - (lg_sl ([.ref h])).length) Slot.unset).toArray = ls at hl ⊢
  have hl : lv_has ls 1 [(0, .ref h)] := hl
  obtain ⟨y1, hf1, hy1⟩ := hbx 1 (Nat.le_refl 1) hn1
  refine lv_aload_n hx hb dX2_findMin_0 rfl (lv_at hl 0 rfl) ?_
  refine va_get (D := G.1) (ci := 0) (v := .int (nI n)) (C := RX3) (T := TX3) (N := 5) hx hb hts in_X3 hown hK hP 0 rfl rfl 2 (by decide) (hts _ q163) (fun x9 h9 => u_same (hts _ q164) x9 h9) rfl dX2_findMin_1 ?_
  refine bz_ne (tgt := 15) hx hb dX2_findMin_4 (by decide) (by omega) (fun c1 => ?_) (fun c1 => ?_)
  · refine lv_aload_n hx hb dX2_findMin_15 rfl (lv_at hl 0 rfl) ?_
    refine va_get (D := G.1) (ci := 0) (v := .ref a) (C := RX3) (T := TX3) (N := 5) hx hb hts in_X3 hown hK hP 0 rfl rfl 1 (by decide) (hts _ q158) (fun x9 h9 => u_same (hts _ q159) x9 h9) rfl dX2_findMin_16 ?_
    refine lv_iconst (v := nI 1) hx hb dX2_findMin_19 (by decide) ?_
    refine qld (y := y1) hx hb hK hP 1 0 rfl rfl (by omega) (by omega) (hf1) dX2_findMin_20 ?_
    exact W.aret (v := .ref y1) hx hb hr (Or.inl ⟨_, rfl⟩) (Or.inr ⟨_, rfl⟩) (fun t ht hW => ⟨y1, rfl, hy1, ht⟩) hS.2.2 dX2_findMin_21
  · exact absurd c1 (by omega)
set_option maxHeartbeats 4000000 in
set_option maxRecDepth 100000 in
/-- clear() -/
theorem m_hClear (l : Launch) (G : gG) (H0 : Heap) (h a cap n d : Nat) (c0 : Value) (f : Nat → Option Nat) (hP : va_P G.1 vwCl (wH G h a cap n d c0 f) H0) (hD : va_D (fun _ => True) (wH G h a cap n d c0 f)) : Met l yX1_clear (ws_ yX1_clear cX1_clear 1 none) ({ frames := 0, cells := 0, slots := 0, locals := 0 }) (PcG G [.ref h] H0 (va_A (wH G h a cap n d c0 f) H0.size)) (va_Qv (fun _ : Unit => True) (fun _ t => va_P G.1 vwCl (wH G h a cap 0 d c0 f) t.heap ∧ va_D (va_A (wH G h a cap n d c0 f) H0.size) (wH G h a cap 0 d c0 f)) (va_A (wH G h a cap n d c0 f) H0.size)) 0 0 (va_A (wH G h a cap n d c0 f) H0.size) := by
  refine Met.ofW (cc := cX1_clear) (maxL := 1) (ret := none) (by decide) rfl ?_
  intro p e s m args below meth c s₁ B hml hv
  obtain ⟨rfl, rfl, hG⟩ := hv
  have hx := B.exec
  have hb := B.bytes
  have hr := B.returns
  have hts := atoms_spec (ws := ws_ yX1_clear cX1_clear 1 none) B.pre
  have hts : ∀ w ∈ lw_all, w.before _ s = true := fun w h => hts w (List.mem_cons_of_mem _ h)
  have hown : s.vm.findClass RX1 = some m.cls := findClass_of_methodNamed B.named
  have hlocks := B.notSynchronized
  have hK := hG.K
  have hbk : ∀ (H : Heap) (locs : List Loc), va_S (va_A (wH G h a cap n d c0 f) s.heap.size) s.heap H locs → bK G s.heap H := fun H locs h => bK.of hK hP (wH_nI) h.2.1
  have hD := hD.self (sz := s.heap.size)
  generalize hAe : va_A (wH G h a cap n d c0 f) s.heap.size = A at hD hG hbk ⊢
  have hA : ∀ q : Nat, s.heap.size ≤ q → A q := fun q h => by rw [← hAe]; exact Or.inr h
  have hS : va_S A s.heap s.heap [] := va_S.rf
  have hl := lv_entry ([.ref h]) (n := 1) (Nat.le_of_ble_eq_true rfl)
  rw [lg_entry_eq]
  generalize (lg_sl ([.ref h]) ++ List.replicate (1 - (lg_sl ([.ref h])).length) Slot.unset).toArray = ls at hl ⊢
  have hl : lv_has ls 1 [(0, .ref h)] := hl
  refine lv_aload_n hx hb dX1_clear_0 rfl (lv_at hl 0 rfl) ?_
  refine lv_iconst (v := nI 0) hx hb dX1_clear_1 (by decide) ?_
  refine va_put (D := G.1) (ci := 0) (v := .int (nI 0)) (ty := .int) (C := RX3) (T := TX3) (N := 5) hx hb hts in_X3 tyX3 tyX3_ok nmX3 hown hK hP hD hS 0 rfl rfl 2 (by decide) (hts _ q162) (fun _ h9 => h9) rfl (by decide +kernel) rfl rfl (Nat.le_of_ble_eq_true rfl) dX1_clear_2 (fun H25 locs hP hD hS => ?_)
  have hP : va_P G.1 vwCl [(h, .inr (0, [c0, .ref a, .int (nI 0), .int (nI 16), .int (nI d)])), (a, .inl (G.2.1 0, qA (cap + 1) (f)))] H25 := hP
  have hD : va_D A [(h, .inr (0, [c0, .ref a, .int (nI 0), .int (nI 16), .int (nI d)])), (a, .inl (G.2.1 0, qA (cap + 1) (f)))] := hD
  exact W.vret hx hb hr (fun t ht hW => ⟨⟨(), rfl, trivial, by rw [ht]; exact hP, hD⟩, hS.F ht⟩) hS.2.2 dX1_clear_5
set_option maxHeartbeats 4000000 in
set_option maxRecDepth 100000 in
/-- checkCapacity(c) -/
theorem m_chk (l : Launch) (G : gG) (H0 : Heap) (h c0 : Nat) (hc : c0 ≤ 100000) : Met l yX1_checkCapacity (ws_ yX1_checkCapacity cX1_checkCapacity 2 none) ({ frames := 0, cells := 0, slots := 0, locals := 0 }) (PcG G [.ref h, .int (nI c0)] H0 (fun _ => False)) (va_Sv (fun _ => True)) 0 0 (fun _ => False) := by
  refine Met.ofW (cc := cX1_checkCapacity) (maxL := 2) (ret := none) (by decide) rfl ?_
  intro p e s m args below meth c s₁ B hml hv
  obtain ⟨rfl, rfl, hG⟩ := hv
  have hx := B.exec
  have hb := B.bytes
  have hr := B.returns
  have hts := atoms_spec (ws := ws_ yX1_checkCapacity cX1_checkCapacity 2 none) B.pre
  have hts : ∀ w ∈ lw_all, w.before _ s = true := fun w h => hts w (List.mem_cons_of_mem _ h)
  have hown : s.vm.findClass RX1 = some m.cls := findClass_of_methodNamed B.named
  have hlocks := B.notSynchronized
  have hK := hG.K
  have hS : va_S (fun _ => False) s.heap s.heap [] := va_S.rf
  have hl := lv_entry ([.ref h, .int (nI c0)]) (n := 2) (Nat.le_of_ble_eq_true rfl)
  rw [lg_entry_eq]
  generalize (lg_sl ([.ref h, .int (nI c0)]) ++ List.replicate (2 - (lg_sl ([.ref h, .int (nI c0)])).length) Slot.unset).toArray = ls at hl ⊢
  have hl : lv_has ls 2 [(0, .ref h), (1, .int (nI c0))] := hl
  refine lv_iload_n hx hb dX1_checkCapacity_0 rfl (lv_at hl 1 rfl) ?_
  refine lv_if_ge (tgt := 14) hx hb dX1_checkCapacity_1 (by decide) (fun c1 => ?_) (fun c1 => ?_)
  · refine lv_iload_n hx hb dX1_checkCapacity_14 rfl (lv_at hl 1 rfl) ?_
    refine lv_ldc (v := 2147483638) hx hb hown (hts _ q136) dX1_checkCapacity_15 ?_
    refine lv_icmp_le (tgt := 30) hx hb dX1_checkCapacity_17 (by decide) (fun c2 => ?_) (fun c2 => ?_)
    · exact W.vret hx hb hr (fun t ht hW => ⟨rfl, trivial, ht⟩) hS.2.2 dX1_checkCapacity_30
    · exfalso
      rw [Int32.le_iff_toInt_le, nI_toInt (by omega), show (2147483638 : Int32).toInt = 2147483638 from by decide] at c2
      omega
  · exact absurd (nI_pos' (by omega)) c1
set_option maxHeartbeats 4000000 in
set_option maxRecDepth 100000 in
/-- initCapacity(16) -/
theorem m_iniC (l : Launch) (G : gG) (H0 : Heap) (h : Nat) (c0 z : Value) (hP : va_P G.1 vwCl [(h, .inr (0, [c0, .null, .int (nI 0), .int (nI 16), z]))] H0) (hD : va_D (fun _ => True) [(h, .inr (0, [c0, .null, .int (nI 0), .int (nI 16), z]))]) : Met l yX2_initCapacity (ws_ yX2_initCapacity cX2_initCapacity 2 none) ({ frames := 0, cells := 1, slots := 17, locals := 0 }) (PcG G [.ref h, .int (nI 16)] H0 (va_A [(h, .inr (0, [c0, .null, .int (nI 0), .int (nI 16), z]))] H0.size)) (va_Qv (fun _ : Nat => True) (fun a t => va_P G.1 vwCl [(h, .inr (0, [c0, .ref a, .int (nI 0), .int (nI 16), z])), (a, .inl (G.2.1 0, qA (16 + 1) (fun _ => none)))] t.heap ∧ va_D (va_A [(h, .inr (0, [c0, .null, .int (nI 0), .int (nI 16), z]))] H0.size) [(h, .inr (0, [c0, .ref a, .int (nI 0), .int (nI 16), z])), (a, .inl (G.2.1 0, qA (16 + 1) (fun _ => none)))]) (va_A [(h, .inr (0, [c0, .null, .int (nI 0), .int (nI 16), z]))] H0.size)) 1 17 (va_A [(h, .inr (0, [c0, .null, .int (nI 0), .int (nI 16), z]))] H0.size) := by
  refine Met.ofW (cc := cX2_initCapacity) (maxL := 2) (ret := none) (by decide) rfl ?_
  intro p e s m args below meth c s₁ B hml hv
  obtain ⟨rfl, rfl, hG⟩ := hv
  have hx := B.exec
  have hb := B.bytes
  have hr := B.returns
  have hts := atoms_spec (ws := ws_ yX2_initCapacity cX2_initCapacity 2 none) B.pre
  have hts : ∀ w ∈ lw_all, w.before _ s = true := fun w h => hts w (List.mem_cons_of_mem _ h)
  have hown : s.vm.findClass RX2 = some m.cls := findClass_of_methodNamed B.named
  have hlocks := B.notSynchronized
  have hK := hG.K
  have hbk : ∀ (H : Heap) (locs : List Loc), va_S (va_A [(h, .inr (0, [c0, .null, .int (nI 0), .int (nI 16), z]))] s.heap.size) s.heap H locs → bK G s.heap H := fun H locs h => bK.of hK hP (nI_o (by decide) nI_nil) h.2.1
  have hD := hD.self (sz := s.heap.size)
  generalize hAe : va_A [(h, .inr (0, [c0, .null, .int (nI 0), .int (nI 16), z]))] s.heap.size = A at hD hG hbk ⊢
  have hA : ∀ q : Nat, s.heap.size ≤ q → A q := fun q h => by rw [← hAe]; exact Or.inr h
  have hS : va_S A s.heap s.heap [] := va_S.rf
  have hl := lv_entry ([.ref h, .int (nI 16)]) (n := 2) (Nat.le_of_ble_eq_true rfl)
  rw [lg_entry_eq]
  generalize (lg_sl ([.ref h, .int (nI 16)]) ++ List.replicate (2 - (lg_sl ([.ref h, .int (nI 16)])).length) Slot.unset).toArray = ls at hl ⊢
  have hl : lv_has ls 2 [(0, .ref h), (1, .int (nI 16))] := hl
  refine lv_aload_n hx hb dX2_initCapacity_0 rfl (lv_at hl 0 rfl) ?_
  refine lv_iload_n hx hb dX2_initCapacity_1 rfl (lv_at hl 1 rfl) ?_
  refine lv_iconst (v := nI 1) hx hb dX2_initCapacity_2 (by decide) ?_
  refine lv_iadd hx hb dX2_initCapacity_3 ?_
  refine lv_tn (nI (16 + 1)) (nI_add _ _) ?_
  refine nwq (C := "java/lang/Object") hx hb hown (hts _ q147) hG.N.aoO hK 0 rfl hP hD hS hA (by decide) (Nat.le_of_ble_eq_true rfl) (Nat.le_of_ble_eq_true rfl) dX2_initCapacity_4 (fun q H26 hP hD hS => ?_)
  have hP : va_P G.1 vwCl [(h, .inr (0, [c0, .null, .int (nI 0), .int (nI 16), z])), (q, .inl (G.2.1 0, qA (16 + 1) (fun _ => none)))] H26 := hP
  have hD : va_D A [(h, .inr (0, [c0, .null, .int (nI 0), .int (nI 16), z])), (q, .inl (G.2.1 0, qA (16 + 1) (fun _ => none)))] := hD
  refine va_put (D := G.1) (ci := 0) (v := .ref q) (ty := .array (.object "java/lang/Object")) (C := RX3) (T := TX3) (N := 5) hx hb hts in_X3 tyX3 tyX3_ok nmX3 hown hK hP hD hS 0 rfl rfl 1 (by decide) (hts _ q158) (fun x9 h9 => u_same (hts _ q159) x9 h9) rfl (by decide +kernel) rfl rfl (Nat.le_of_ble_eq_true rfl) dX2_initCapacity_7 (fun H27 locs hP hD hS => ?_)
  have hP : va_P G.1 vwCl [(h, .inr (0, [c0, .ref q, .int (nI 0), .int (nI 16), z])), (q, .inl (G.2.1 0, qA (16 + 1) (fun _ => none)))] H27 := hP
  have hD : va_D A [(h, .inr (0, [c0, .ref q, .int (nI 0), .int (nI 16), z])), (q, .inl (G.2.1 0, qA (16 + 1) (fun _ => none)))] := hD
  refine W.widen (k := 1) (n := 17) (by decide) (by decide) ?_
  exact W.vret hx hb hr (fun t ht hW => ⟨⟨q, rfl, trivial, by rw [ht]; exact hP, hD⟩, hS.F ht⟩) hS.2.2 dX2_initCapacity_10
set_option maxHeartbeats 4000000 in
set_option maxRecDepth 100000 in
/-- AbstractArrayWeakHeap(comparator, c) -/
theorem m_awI (l : Launch) (G : gG) (H0 : Heap) (h c0 : Nat) (up : Bool) (hc : c0 ≤ 16) (hP : va_P G.1 vwCl [(h, .inr (0, [.null, .null, .int (nI 0), .int (nI 0), .int (nI 0)]))] H0) (hD : va_D (fun _ => True) [(h, .inr (0, [.null, .null, .int (nI 0), .int (nI 0), .int (nI 0)]))]) : Met l yX1_init (ws_ yX1_init cX1_init 3 none) ({ frames := 1, cells := 1, slots := 17, locals := 21 }) (PcG G [.ref h, cV G up, .int (nI c0)] H0 (va_A [(h, .inr (0, [.null, .null, .int (nI 0), .int (nI 0), .int (nI 0)]))] H0.size)) (va_Qv (fun _ : Nat => True) (fun a t => va_P G.1 vwCl [(h, .inr (0, [cV G up, .ref a, .int (nI 0), .int (nI 16), (.int (nI 0))])), (a, .inl (G.2.1 0, qA (16 + 1) (fun _ => none)))] t.heap ∧ va_D (va_A [(h, .inr (0, [.null, .null, .int (nI 0), .int (nI 0), .int (nI 0)]))] H0.size) [(h, .inr (0, [cV G up, .ref a, .int (nI 0), .int (nI 16), (.int (nI 0))])), (a, .inl (G.2.1 0, qA (16 + 1) (fun _ => none)))]) (va_A [(h, .inr (0, [.null, .null, .int (nI 0), .int (nI 0), .int (nI 0)]))] H0.size)) 1 17 (va_A [(h, .inr (0, [.null, .null, .int (nI 0), .int (nI 0), .int (nI 0)]))] H0.size) := by
  cases up with
  | true =>
    refine Met.ofW (cc := cX1_init) (maxL := 3) (ret := none) (by decide) rfl ?_
    intro p e s m args below meth c s₁ B hml hv
    obtain ⟨rfl, rfl, hG⟩ := hv
    have hx := B.exec
    have hb := B.bytes
    have hr := B.returns
    have hts := atoms_spec (ws := ws_ yX1_init cX1_init 3 none) B.pre
    have hts : ∀ w ∈ lw_all, w.before _ s = true := fun w h => hts w (List.mem_cons_of_mem _ h)
    have hown : s.vm.findClass RX1 = some m.cls := findClass_of_methodNamed B.named
    have hlocks := B.notSynchronized
    have hin : meth.name = "<init>" := (name_of_methodNamed B.named B.method).1
    have hK := hG.K
    have hbk : ∀ (H : Heap) (locs : List Loc), va_S (va_A [(h, .inr (0, [.null, .null, .int (nI 0), .int (nI 0), .int (nI 0)]))] s.heap.size) s.heap H locs → bK G s.heap H := fun H locs h => bK.of hK hP (nI_o (by decide) nI_nil) h.2.1
    have hD := hD.self (sz := s.heap.size)
    generalize hAe : va_A [(h, .inr (0, [.null, .null, .int (nI 0), .int (nI 0), .int (nI 0)]))] s.heap.size = A at hD hG hbk ⊢
    have hA : ∀ q : Nat, s.heap.size ≤ q → A q := fun q h => by rw [← hAe]; exact Or.inr h
    have hS : va_S A s.heap s.heap [] := va_S.rf
    have hl := lv_entry ([.ref h, cV G true, .int (nI c0)]) (n := 3) (Nat.le_of_ble_eq_true rfl)
    rw [lg_entry_eq]
    generalize (lg_sl ([.ref h, cV G true, .int (nI c0)]) ++ List.replicate (3 - (lg_sl ([.ref h, cV G true, .int (nI c0)])).length) Slot.unset).toArray = ls at hl ⊢
    have hl : lv_has ls 3 [(0, .ref h), (1, cV G true), (2, .int (nI c0))] := hl
    have hl : lv_has ls 3 [(0, .ref h), (1, .null), (2, .int (nI c0))] := hl
    refine lv_aload_n hx hb dX1_init_0 rfl (lv_at hl 0 rfl) ?_
    refine W.objInit hx hb hown (hts _ q49) (hts _ q26) (hts _ q27) rfl (by rw [hml]; exact hl.1) rfl dX1_init_1 (Nat.le_of_ble_eq_true rfl) (Nat.le_of_ble_eq_true rfl) ?_
    refine W.eq (g2 := F0 m 4 ls []) rfl ?_
    refine lv_aload_n hx hb dX1_init_4 rfl (lv_at hl 0 rfl) ?_
    refine lv_iload_n hx hb dX1_init_5 rfl (lv_at hl 2 rfl) ?_
    refine va_csv (va_Run.run (va_runU (As := [.int (nI c0)]) (rest := []) ⟨hx, hb, hml, hown, hts⟩ (m_chk l G _ h c0 (by omega)) (va_cwU 1 hts (lw_U (C := "DaryArrayHeap") (owner := "AbstractArrayWeakHeap") (x := ⟨"AbstractArrayWeakHeap", "checkCapacity", "(I)V"⟩) (y := yX1_checkCapacity) q50 q52 q53 q51 q5 q54) rfl rfl rfl rfl (by decide +kernel) ⟨Nat.le_of_ble_eq_true rfl, Nat.le_of_ble_eq_true rfl⟩) (PcG.v (va_recv hK hP (ci := 0) (q0 := 0) (q := (RX3, TX3, 5)) rfl rfl) (hG.ro hS)) rfl rfl hl.1 rfl (lv_room (Nat.le_of_ble_eq_true rfl)) dX1_init_6 ⟨Nat.le_of_ble_eq_true rfl, Nat.le_of_ble_eq_true rfl⟩)) (fun _ => ?_)
    refine lv_aload_n hx hb dX1_init_9 rfl (lv_at hl 0 rfl) ?_
    refine lv_iconst (v := nI 0) hx hb dX1_init_10 (by decide) ?_
    refine va_put (D := G.1) (ci := 0) (v := .int (nI 0)) (ty := .int) (C := RX3) (T := TX3) (N := 5) hx hb hts in_X3 tyX3 tyX3_ok nmX3 hown hK hP hD hS 0 rfl rfl 2 (by decide) (hts _ q162) (fun _ h9 => h9) rfl (by decide +kernel) rfl rfl (Nat.le_of_ble_eq_true rfl) dX1_init_11 (fun H28 locs hP hD hS => ?_)
    have hP : va_P G.1 vwCl [(h, .inr (0, [.null, .null, .int (nI 0), .int (nI 0), .int (nI 0)]))] H28 := hP
    have hD : va_D A [(h, .inr (0, [.null, .null, .int (nI 0), .int (nI 0), .int (nI 0)]))] := hD
    refine lv_aload_n hx hb dX1_init_14 rfl (lv_at hl 0 rfl) ?_
    refine lv_aload_nN hx hb dX1_init_15 rfl (lv_at hl 1 rfl) ?_
    refine va_putF (D := G.1) (ci := 0) (v := .null) (ty := .object "java/util/Comparator") (C := RX3) (T := TX3) (N := 5) hx hb hts in_X3 tyX3 tyX3_ok nmX3 hown hK hP hD hS 0 rfl rfl 0 (by decide) (hts _ q153) (fun _ h9 => h9) rfl hin rfl (by decide +kernel) rfl rfl (Nat.le_of_ble_eq_true rfl) dX1_init_16 (fun H29 locs hP hD hS => ?_)
    have hP : va_P G.1 vwCl [(h, .inr (0, [.null, .null, .int (nI 0), .int (nI 0), .int (nI 0)]))] H29 := hP
    have hD : va_D A [(h, .inr (0, [.null, .null, .int (nI 0), .int (nI 0), .int (nI 0)]))] := hD
    refine lv_aload_n hx hb dX1_init_19 rfl (lv_at hl 0 rfl) ?_
    refine lv_iload_n hx hb dX1_init_20 rfl (lv_at hl 2 rfl) ?_
    refine lv_bipush (v := nI 16) hx hb dX1_init_21 (by decide) ?_
    refine va_mmax hx hb (by rw [hml]; exact hl.1.symm) hown (hts _ q138) (hts _ q139) (hts _ q12) (hts _ q140) (Nat.le_of_ble_eq_true rfl) (Nat.le_of_ble_eq_true rfl) (Nat.le_of_ble_eq_true rfl) (Nat.le_of_ble_eq_true rfl) dX1_init_23 ?_
    refine lv_tn (nI (16)) (max16 hc) ?_
    refine va_putF (D := G.1) (ci := 0) (v := .int (nI 16)) (ty := .int) (C := RX3) (T := TX3) (N := 5) hx hb hts in_X3 tyX3 tyX3_ok nmX3 hown hK hP hD hS 0 rfl rfl 3 (by decide) (hts _ q167) (fun _ h9 => h9) rfl hin rfl (by decide +kernel) rfl rfl (Nat.le_of_ble_eq_true rfl) dX1_init_26 (fun H30 locs hP hD hS => ?_)
    have hP : va_P G.1 vwCl [(h, .inr (0, [.null, .null, .int (nI 0), .int (nI 16), .int (nI 0)]))] H30 := hP
    have hD : va_D A [(h, .inr (0, [.null, .null, .int (nI 0), .int (nI 16), .int (nI 0)]))] := hD
    refine lv_aload_n hx hb dX1_init_29 rfl (lv_at hl 0 rfl) ?_
    refine lv_aload_n hx hb dX1_init_30 rfl (lv_at hl 0 rfl) ?_
    refine va_get (D := G.1) (ci := 0) (v := .int (nI 16)) (C := RX3) (T := TX3) (N := 5) hx hb hts in_X3 hown hK hP 0 rfl rfl 3 (by decide) (hts _ q167) (fun _ h9 => h9) rfl dX1_init_31 ?_
    have hPc := hP.sub (ws' := [(h, .inr (0, [.null, .null, .int (nI 0), .int (nI 16), .int (nI 0)]))]) [0] rfl
    have hDc := hD.sub (ws' := [(h, .inr (0, [.null, .null, .int (nI 0), .int (nI 16), .int (nI 0)]))]) [0] (by decide) rfl
    have hFc := va_free (wc := [(h, .inr (0, [.null, .null, .int (nI 0), .int (nI 16), .int (nI 0)]))]) hD hS hA [0] rfl
    refine va_callv (va_runU (As := [.int (nI 16)]) (rest := []) ⟨hx, hb, hml, hown, hts⟩ (m_iniC l G _ h _ _ hPc (hDc.weaken (fun _ _ _ _ => trivial))) (va_cwA 1 hts (lw_U (C := "DaryArrayHeap") (owner := "AbstractArrayWeakHeap") (x := ⟨"AbstractArrayWeakHeap", "initCapacity", "(I)V"⟩) (y := yX2_initCapacity) q141 q143 q144 q145 q6 q146) rfl rfl rfl hG.N.dInit (by decide +kernel) ⟨Nat.le_of_ble_eq_true rfl, Nat.le_of_ble_eq_true rfl⟩) (PcG.v (va_recv hK hPc (ci := 0) (q0 := 0) (q := (RX3, TX3, 5)) rfl rfl) (hG.sub hS hFc)) rfl rfl hl.1 rfl (lv_room (Nat.le_of_ble_eq_true rfl)) dX1_init_34 ⟨Nat.le_of_ble_eq_true rfl, Nat.le_of_ble_eq_true rfl⟩) hS (fun q _ h => hFc q h) hFc (fun u t H31 locs ht hvm hw hB hz1 hk1 hS => ?_)
    try dsimp only at hB
    rw [ht] at hB
    obtain ⟨hP, hD1⟩ := hB
    refine W.widen (k := 1) (n := 17) (by decide) (by decide) ?_
    exact W.vret hx hb hr (fun t ht hW => ⟨⟨u, rfl, trivial, by rw [ht]; exact hP, hD1.weaken (fun _ q _ h => hFc q.1 h)⟩, hS.F ht⟩) hS.2.2 dX1_init_37
  | false =>
    refine Met.ofW (cc := cX1_init) (maxL := 3) (ret := none) (by decide) rfl ?_
    intro p e s m args below meth c s₁ B hml hv
    obtain ⟨rfl, rfl, hG⟩ := hv
    have hx := B.exec
    have hb := B.bytes
    have hr := B.returns
    have hts := atoms_spec (ws := ws_ yX1_init cX1_init 3 none) B.pre
    have hts : ∀ w ∈ lw_all, w.before _ s = true := fun w h => hts w (List.mem_cons_of_mem _ h)
    have hown : s.vm.findClass RX1 = some m.cls := findClass_of_methodNamed B.named
    have hlocks := B.notSynchronized
    have hin : meth.name = "<init>" := (name_of_methodNamed B.named B.method).1
    have hK := hG.K
    have hbk : ∀ (H : Heap) (locs : List Loc), va_S (va_A [(h, .inr (0, [.null, .null, .int (nI 0), .int (nI 0), .int (nI 0)]))] s.heap.size) s.heap H locs → bK G s.heap H := fun H locs h => bK.of hK hP (nI_o (by decide) nI_nil) h.2.1
    have hD := hD.self (sz := s.heap.size)
    generalize hAe : va_A [(h, .inr (0, [.null, .null, .int (nI 0), .int (nI 0), .int (nI 0)]))] s.heap.size = A at hD hG hbk ⊢
    have hA : ∀ q : Nat, s.heap.size ≤ q → A q := fun q h => by rw [← hAe]; exact Or.inr h
    have hS : va_S A s.heap s.heap [] := va_S.rf
    have hl := lv_entry ([.ref h, cV G false, .int (nI c0)]) (n := 3) (Nat.le_of_ble_eq_true rfl)
    rw [lg_entry_eq]
    generalize (lg_sl ([.ref h, cV G false, .int (nI c0)]) ++ List.replicate (3 - (lg_sl ([.ref h, cV G false, .int (nI c0)])).length) Slot.unset).toArray = ls at hl ⊢
    have hl : lv_has ls 3 [(0, .ref h), (1, cV G false), (2, .int (nI c0))] := hl
    have hl : lv_has ls 3 [(0, .ref h), (1, .ref ((G.2.2 1))), (2, .int (nI c0))] := hl
    refine lv_aload_n hx hb dX1_init_0 rfl (lv_at hl 0 rfl) ?_
    refine W.objInit hx hb hown (hts _ q49) (hts _ q26) (hts _ q27) rfl (by rw [hml]; exact hl.1) rfl dX1_init_1 (Nat.le_of_ble_eq_true rfl) (Nat.le_of_ble_eq_true rfl) ?_
    refine W.eq (g2 := F0 m 4 ls []) rfl ?_
    refine lv_aload_n hx hb dX1_init_4 rfl (lv_at hl 0 rfl) ?_
    refine lv_iload_n hx hb dX1_init_5 rfl (lv_at hl 2 rfl) ?_
    refine va_csv (va_Run.run (va_runU (As := [.int (nI c0)]) (rest := []) ⟨hx, hb, hml, hown, hts⟩ (m_chk l G _ h c0 (by omega)) (va_cwU 1 hts (lw_U (C := "DaryArrayHeap") (owner := "AbstractArrayWeakHeap") (x := ⟨"AbstractArrayWeakHeap", "checkCapacity", "(I)V"⟩) (y := yX1_checkCapacity) q50 q52 q53 q51 q5 q54) rfl rfl rfl rfl (by decide +kernel) ⟨Nat.le_of_ble_eq_true rfl, Nat.le_of_ble_eq_true rfl⟩) (PcG.v (va_recv hK hP (ci := 0) (q0 := 0) (q := (RX3, TX3, 5)) rfl rfl) (hG.ro hS)) rfl rfl hl.1 rfl (lv_room (Nat.le_of_ble_eq_true rfl)) dX1_init_6 ⟨Nat.le_of_ble_eq_true rfl, Nat.le_of_ble_eq_true rfl⟩)) (fun _ => ?_)
    refine lv_aload_n hx hb dX1_init_9 rfl (lv_at hl 0 rfl) ?_
    refine lv_iconst (v := nI 0) hx hb dX1_init_10 (by decide) ?_
    refine va_put (D := G.1) (ci := 0) (v := .int (nI 0)) (ty := .int) (C := RX3) (T := TX3) (N := 5) hx hb hts in_X3 tyX3 tyX3_ok nmX3 hown hK hP hD hS 0 rfl rfl 2 (by decide) (hts _ q162) (fun _ h9 => h9) rfl (by decide +kernel) rfl rfl (Nat.le_of_ble_eq_true rfl) dX1_init_11 (fun H32 locs hP hD hS => ?_)
    have hP : va_P G.1 vwCl [(h, .inr (0, [.null, .null, .int (nI 0), .int (nI 0), .int (nI 0)]))] H32 := hP
    have hD : va_D A [(h, .inr (0, [.null, .null, .int (nI 0), .int (nI 0), .int (nI 0)]))] := hD
    refine lv_aload_n hx hb dX1_init_14 rfl (lv_at hl 0 rfl) ?_
    refine lv_aload_n hx hb dX1_init_15 rfl (lv_at hl 1 rfl) ?_
    refine va_putF (D := G.1) (ci := 0) (v := .ref ((G.2.2 1))) (ty := .object "java/util/Comparator") (C := RX3) (T := TX3) (N := 5) hx hb hts in_X3 tyX3 tyX3_ok nmX3 hown hK hP hD hS 0 rfl rfl 0 (by decide) (hts _ q153) (fun _ h9 => h9) rfl hin rfl (by decide +kernel) rfl rfl (Nat.le_of_ble_eq_true rfl) dX1_init_16 (fun H33 locs hP hD hS => ?_)
    have hP : va_P G.1 vwCl [(h, .inr (0, [.ref ((G.2.2 1)), .null, .int (nI 0), .int (nI 0), .int (nI 0)]))] H33 := hP
    have hD : va_D A [(h, .inr (0, [.ref ((G.2.2 1)), .null, .int (nI 0), .int (nI 0), .int (nI 0)]))] := hD
    refine lv_aload_n hx hb dX1_init_19 rfl (lv_at hl 0 rfl) ?_
    refine lv_iload_n hx hb dX1_init_20 rfl (lv_at hl 2 rfl) ?_
    refine lv_bipush (v := nI 16) hx hb dX1_init_21 (by decide) ?_
    refine va_mmax hx hb (by rw [hml]; exact hl.1.symm) hown (hts _ q138) (hts _ q139) (hts _ q12) (hts _ q140) (Nat.le_of_ble_eq_true rfl) (Nat.le_of_ble_eq_true rfl) (Nat.le_of_ble_eq_true rfl) (Nat.le_of_ble_eq_true rfl) dX1_init_23 ?_
    refine lv_tn (nI (16)) (max16 hc) ?_
    refine va_putF (D := G.1) (ci := 0) (v := .int (nI 16)) (ty := .int) (C := RX3) (T := TX3) (N := 5) hx hb hts in_X3 tyX3 tyX3_ok nmX3 hown hK hP hD hS 0 rfl rfl 3 (by decide) (hts _ q167) (fun _ h9 => h9) rfl hin rfl (by decide +kernel) rfl rfl (Nat.le_of_ble_eq_true rfl) dX1_init_26 (fun H34 locs hP hD hS => ?_)
    have hP : va_P G.1 vwCl [(h, .inr (0, [.ref ((G.2.2 1)), .null, .int (nI 0), .int (nI 16), .int (nI 0)]))] H34 := hP
    have hD : va_D A [(h, .inr (0, [.ref ((G.2.2 1)), .null, .int (nI 0), .int (nI 16), .int (nI 0)]))] := hD
    refine lv_aload_n hx hb dX1_init_29 rfl (lv_at hl 0 rfl) ?_
    refine lv_aload_n hx hb dX1_init_30 rfl (lv_at hl 0 rfl) ?_
    refine va_get (D := G.1) (ci := 0) (v := .int (nI 16)) (C := RX3) (T := TX3) (N := 5) hx hb hts in_X3 hown hK hP 0 rfl rfl 3 (by decide) (hts _ q167) (fun _ h9 => h9) rfl dX1_init_31 ?_
    have hPc := hP.sub (ws' := [(h, .inr (0, [.ref ((G.2.2 1)), .null, .int (nI 0), .int (nI 16), .int (nI 0)]))]) [0] rfl
    have hDc := hD.sub (ws' := [(h, .inr (0, [.ref ((G.2.2 1)), .null, .int (nI 0), .int (nI 16), .int (nI 0)]))]) [0] (by decide) rfl
    have hFc := va_free (wc := [(h, .inr (0, [.ref ((G.2.2 1)), .null, .int (nI 0), .int (nI 16), .int (nI 0)]))]) hD hS hA [0] rfl
    refine va_callv (va_runU (As := [.int (nI 16)]) (rest := []) ⟨hx, hb, hml, hown, hts⟩ (m_iniC l G _ h _ _ hPc (hDc.weaken (fun _ _ _ _ => trivial))) (va_cwA 1 hts (lw_U (C := "DaryArrayHeap") (owner := "AbstractArrayWeakHeap") (x := ⟨"AbstractArrayWeakHeap", "initCapacity", "(I)V"⟩) (y := yX2_initCapacity) q141 q143 q144 q145 q6 q146) rfl rfl rfl hG.N.dInit (by decide +kernel) ⟨Nat.le_of_ble_eq_true rfl, Nat.le_of_ble_eq_true rfl⟩) (PcG.v (va_recv hK hPc (ci := 0) (q0 := 0) (q := (RX3, TX3, 5)) rfl rfl) (hG.sub hS hFc)) rfl rfl hl.1 rfl (lv_room (Nat.le_of_ble_eq_true rfl)) dX1_init_34 ⟨Nat.le_of_ble_eq_true rfl, Nat.le_of_ble_eq_true rfl⟩) hS (fun q _ h => hFc q h) hFc (fun u t H35 locs ht hvm hw hB hz1 hk1 hS => ?_)
    try dsimp only at hB
    rw [ht] at hB
    obtain ⟨hP, hD1⟩ := hB
    refine W.widen (k := 1) (n := 17) (by decide) (by decide) ?_
    exact W.vret hx hb hr (fun t ht hW => ⟨⟨u, rfl, trivial, by rw [ht]; exact hP, hD1.weaken (fun _ q _ h => hFc q.1 h)⟩, hS.F ht⟩) hS.2.2 dX1_init_37
set_option maxHeartbeats 4000000 in
set_option maxRecDepth 100000 in
/-- AbstractArrayHeap(comparator, c) -/
theorem m_ahI (l : Launch) (G : gG) (H0 : Heap) (h c0 : Nat) (up : Bool) (hc : c0 ≤ 16) (hP : va_P G.1 vwCl [(h, .inr (0, [.null, .null, .int (nI 0), .int (nI 0), .int (nI 0)]))] H0) (hD : va_D (fun _ => True) [(h, .inr (0, [.null, .null, .int (nI 0), .int (nI 0), .int (nI 0)]))]) : Met l yX2_init (ws_ yX2_init cX2_init 3 none) ({ frames := 2, cells := 1, slots := 17, locals := 43 }) (PcG G [.ref h, cV G up, .int (nI c0)] H0 (va_A [(h, .inr (0, [.null, .null, .int (nI 0), .int (nI 0), .int (nI 0)]))] H0.size)) (va_Qv (fun _ : Nat => True) (fun a t => va_P G.1 vwCl [(h, .inr (0, [cV G up, .ref a, .int (nI 0), .int (nI 16), (.int (nI 0))])), (a, .inl (G.2.1 0, qA (16 + 1) (fun _ => none)))] t.heap ∧ va_D (va_A [(h, .inr (0, [.null, .null, .int (nI 0), .int (nI 0), .int (nI 0)]))] H0.size) [(h, .inr (0, [cV G up, .ref a, .int (nI 0), .int (nI 16), (.int (nI 0))])), (a, .inl (G.2.1 0, qA (16 + 1) (fun _ => none)))]) (va_A [(h, .inr (0, [.null, .null, .int (nI 0), .int (nI 0), .int (nI 0)]))] H0.size)) 1 17 (va_A [(h, .inr (0, [.null, .null, .int (nI 0), .int (nI 0), .int (nI 0)]))] H0.size) := by
  cases up with
  | true =>
    refine Met.ofW (cc := cX2_init) (maxL := 3) (ret := none) (by decide) rfl ?_
    intro p e s m args below meth c s₁ B hml hv
    obtain ⟨rfl, rfl, hG⟩ := hv
    have hx := B.exec
    have hb := B.bytes
    have hr := B.returns
    have hts := atoms_spec (ws := ws_ yX2_init cX2_init 3 none) B.pre
    have hts : ∀ w ∈ lw_all, w.before _ s = true := fun w h => hts w (List.mem_cons_of_mem _ h)
    have hown : s.vm.findClass RX2 = some m.cls := findClass_of_methodNamed B.named
    have hlocks := B.notSynchronized
    have hin : meth.name = "<init>" := (name_of_methodNamed B.named B.method).1
    have hK := hG.K
    have hbk : ∀ (H : Heap) (locs : List Loc), va_S (va_A [(h, .inr (0, [.null, .null, .int (nI 0), .int (nI 0), .int (nI 0)]))] s.heap.size) s.heap H locs → bK G s.heap H := fun H locs h => bK.of hK hP (nI_o (by decide) nI_nil) h.2.1
    have hD := hD.self (sz := s.heap.size)
    generalize hAe : va_A [(h, .inr (0, [.null, .null, .int (nI 0), .int (nI 0), .int (nI 0)]))] s.heap.size = A at hD hG hbk ⊢
    have hA : ∀ q : Nat, s.heap.size ≤ q → A q := fun q h => by rw [← hAe]; exact Or.inr h
    have hS : va_S A s.heap s.heap [] := va_S.rf
    have hl := lv_entry ([.ref h, cV G true, .int (nI c0)]) (n := 3) (Nat.le_of_ble_eq_true rfl)
    rw [lg_entry_eq]
    generalize (lg_sl ([.ref h, cV G true, .int (nI c0)]) ++ List.replicate (3 - (lg_sl ([.ref h, cV G true, .int (nI c0)])).length) Slot.unset).toArray = ls at hl ⊢
    have hl : lv_has ls 3 [(0, .ref h), (1, cV G true), (2, .int (nI c0))] := hl
    have hl : lv_has ls 3 [(0, .ref h), (1, .null), (2, .int (nI c0))] := hl
    refine lv_aload_n hx hb dX2_init_0 rfl (lv_at hl 0 rfl) ?_
    refine lv_aload_nN hx hb dX2_init_1 rfl (lv_at hl 1 rfl) ?_
    refine lv_iload_n hx hb dX2_init_2 rfl (lv_at hl 2 rfl) ?_
    have hPc := hP.sub (ws' := [(h, .inr (0, [.null, .null, .int (nI 0), .int (nI 0), .int (nI 0)]))]) [0] rfl
    have hDc := hD.sub (ws' := [(h, .inr (0, [.null, .null, .int (nI 0), .int (nI 0), .int (nI 0)]))]) [0] (by decide) rfl
    have hFc := va_free (wc := [(h, .inr (0, [.null, .null, .int (nI 0), .int (nI 0), .int (nI 0)]))]) hD hS hA [0] rfl
    refine va_callv (va_runI (As := [.null, .int (nI c0)]) (rest := []) ⟨hx, hb, hml, hown, hts⟩ (m_awI l G _ h c0 true hc hPc (hDc.weaken (fun _ _ _ _ => trivial))) (cwI 2 hts (lw_meth q48) rfl rfl rfl (hts _ q5) (hts _ q46) (hts _ q47) rfl (by decide +kernel) ⟨Nat.le_of_ble_eq_true rfl, Nat.le_of_ble_eq_true rfl⟩) (PcG.s (hG.sub hS hFc)) rfl rfl hl.1 rfl (lv_room (Nat.le_of_ble_eq_true rfl)) dX2_init_3 ⟨Nat.le_of_ble_eq_true rfl, Nat.le_of_ble_eq_true rfl⟩) hS (fun q _ h => hFc q h) hFc (fun u t H36 locs ht hvm hw hB hz1 hk1 hS => ?_)
    try dsimp only at hB
    rw [ht] at hB
    obtain ⟨hP, hD1⟩ := hB
    refine W.widen (k := 1) (n := 17) (by decide) (by decide) ?_
    exact W.vret hx hb hr (fun t ht hW => ⟨⟨u, rfl, trivial, by rw [ht]; exact hP, hD1.weaken (fun _ q _ h => hFc q.1 h)⟩, hS.F ht⟩) hS.2.2 dX2_init_6
  | false =>
    refine Met.ofW (cc := cX2_init) (maxL := 3) (ret := none) (by decide) rfl ?_
    intro p e s m args below meth c s₁ B hml hv
    obtain ⟨rfl, rfl, hG⟩ := hv
    have hx := B.exec
    have hb := B.bytes
    have hr := B.returns
    have hts := atoms_spec (ws := ws_ yX2_init cX2_init 3 none) B.pre
    have hts : ∀ w ∈ lw_all, w.before _ s = true := fun w h => hts w (List.mem_cons_of_mem _ h)
    have hown : s.vm.findClass RX2 = some m.cls := findClass_of_methodNamed B.named
    have hlocks := B.notSynchronized
    have hin : meth.name = "<init>" := (name_of_methodNamed B.named B.method).1
    have hK := hG.K
    have hbk : ∀ (H : Heap) (locs : List Loc), va_S (va_A [(h, .inr (0, [.null, .null, .int (nI 0), .int (nI 0), .int (nI 0)]))] s.heap.size) s.heap H locs → bK G s.heap H := fun H locs h => bK.of hK hP (nI_o (by decide) nI_nil) h.2.1
    have hD := hD.self (sz := s.heap.size)
    generalize hAe : va_A [(h, .inr (0, [.null, .null, .int (nI 0), .int (nI 0), .int (nI 0)]))] s.heap.size = A at hD hG hbk ⊢
    have hA : ∀ q : Nat, s.heap.size ≤ q → A q := fun q h => by rw [← hAe]; exact Or.inr h
    have hS : va_S A s.heap s.heap [] := va_S.rf
    have hl := lv_entry ([.ref h, cV G false, .int (nI c0)]) (n := 3) (Nat.le_of_ble_eq_true rfl)
    rw [lg_entry_eq]
    generalize (lg_sl ([.ref h, cV G false, .int (nI c0)]) ++ List.replicate (3 - (lg_sl ([.ref h, cV G false, .int (nI c0)])).length) Slot.unset).toArray = ls at hl ⊢
    have hl : lv_has ls 3 [(0, .ref h), (1, cV G false), (2, .int (nI c0))] := hl
    have hl : lv_has ls 3 [(0, .ref h), (1, .ref ((G.2.2 1))), (2, .int (nI c0))] := hl
    refine lv_aload_n hx hb dX2_init_0 rfl (lv_at hl 0 rfl) ?_
    refine lv_aload_n hx hb dX2_init_1 rfl (lv_at hl 1 rfl) ?_
    refine lv_iload_n hx hb dX2_init_2 rfl (lv_at hl 2 rfl) ?_
    have hPc := hP.sub (ws' := [(h, .inr (0, [.null, .null, .int (nI 0), .int (nI 0), .int (nI 0)]))]) [0] rfl
    have hDc := hD.sub (ws' := [(h, .inr (0, [.null, .null, .int (nI 0), .int (nI 0), .int (nI 0)]))]) [0] (by decide) rfl
    have hFc := va_free (wc := [(h, .inr (0, [.null, .null, .int (nI 0), .int (nI 0), .int (nI 0)]))]) hD hS hA [0] rfl
    refine va_callv (va_runI (As := [.ref ((G.2.2 1)), .int (nI c0)]) (rest := []) ⟨hx, hb, hml, hown, hts⟩ (m_awI l G _ h c0 false hc hPc (hDc.weaken (fun _ _ _ _ => trivial))) (cwI 2 hts (lw_meth q48) rfl rfl rfl (hts _ q5) (hts _ q46) (hts _ q47) rfl (by decide +kernel) ⟨Nat.le_of_ble_eq_true rfl, Nat.le_of_ble_eq_true rfl⟩) (PcG.s (hG.sub hS hFc)) rfl rfl hl.1 rfl (lv_room (Nat.le_of_ble_eq_true rfl)) dX2_init_3 ⟨Nat.le_of_ble_eq_true rfl, Nat.le_of_ble_eq_true rfl⟩) hS (fun q _ h => hFc q h) hFc (fun u t H37 locs ht hvm hw hB hz1 hk1 hS => ?_)
    try dsimp only at hB
    rw [ht] at hB
    obtain ⟨hP, hD1⟩ := hB
    refine W.widen (k := 1) (n := 17) (by decide) (by decide) ?_
    exact W.vret hx hb hr (fun t ht hW => ⟨⟨u, rfl, trivial, by rw [ht]; exact hP, hD1.weaken (fun _ q _ h => hFc q.1 h)⟩, hS.F ht⟩) hS.2.2 dX2_init_6
set_option maxHeartbeats 4000000 in
set_option maxRecDepth 100000 in
/-- DaryArrayHeap(d, comparator, c) -/
theorem m_dI2 (l : Launch) (G : gG) (H0 : Heap) (h d c0 : Nat) (up : Bool) (hc : c0 ≤ 16) (hd : d = 2 ∨ d = 3) (hP : va_P G.1 vwCl [(h, .inr (0, [.null, .null, .int (nI 0), .int (nI 0), .int (nI 0)]))] H0) (hD : va_D (fun _ => True) [(h, .inr (0, [.null, .null, .int (nI 0), .int (nI 0), .int (nI 0)]))]) : Met l yX3_init_2 (ws_ yX3_init_2 cX3_init_2 4 none) ({ frames := 3, cells := 1, slots := 17, locals := 65 }) (PcG G [.ref h, .int (nI d), cV G up, .int (nI c0)] H0 (va_A [(h, .inr (0, [.null, .null, .int (nI 0), .int (nI 0), .int (nI 0)]))] H0.size)) (va_Qv (fun _ : Nat => True) (fun a t => va_P G.1 vwCl (wH G h a 16 0 d (cV G up) (fun _ => none)) t.heap ∧ va_D (va_A [(h, .inr (0, [.null, .null, .int (nI 0), .int (nI 0), .int (nI 0)]))] H0.size) (wH G h a 16 0 d (cV G up) (fun _ => none))) (va_A [(h, .inr (0, [.null, .null, .int (nI 0), .int (nI 0), .int (nI 0)]))] H0.size)) 1 17 (va_A [(h, .inr (0, [.null, .null, .int (nI 0), .int (nI 0), .int (nI 0)]))] H0.size) := by
  cases up with
  | true =>
    refine Met.ofW (cc := cX3_init_2) (maxL := 4) (ret := none) (by decide) rfl ?_
    intro p e s m args below meth c s₁ B hml hv
    obtain ⟨rfl, rfl, hG⟩ := hv
    have hx := B.exec
    have hb := B.bytes
    have hr := B.returns
    have hts := atoms_spec (ws := ws_ yX3_init_2 cX3_init_2 4 none) B.pre
    have hts : ∀ w ∈ lw_all, w.before _ s = true := fun w h => hts w (List.mem_cons_of_mem _ h)
    have hown : s.vm.findClass RX3 = some m.cls := findClass_of_methodNamed B.named
    have hlocks := B.notSynchronized
    have hin : meth.name = "<init>" := (name_of_methodNamed B.named B.method).1
    have hK := hG.K
    have hbk : ∀ (H : Heap) (locs : List Loc), va_S (va_A [(h, .inr (0, [.null, .null, .int (nI 0), .int (nI 0), .int (nI 0)]))] s.heap.size) s.heap H locs → bK G s.heap H := fun H locs h => bK.of hK hP (nI_o (by decide) nI_nil) h.2.1
    have hD := hD.self (sz := s.heap.size)
    generalize hAe : va_A [(h, .inr (0, [.null, .null, .int (nI 0), .int (nI 0), .int (nI 0)]))] s.heap.size = A at hD hG hbk ⊢
    have hA : ∀ q : Nat, s.heap.size ≤ q → A q := fun q h => by rw [← hAe]; exact Or.inr h
    have hS : va_S A s.heap s.heap [] := va_S.rf
    have hl := lv_entry ([.ref h, .int (nI d), cV G true, .int (nI c0)]) (n := 4) (Nat.le_of_ble_eq_true rfl)
    rw [lg_entry_eq]
    generalize (lg_sl ([.ref h, .int (nI d), cV G true, .int (nI c0)]) ++ List.replicate (4 - (lg_sl ([.ref h, .int (nI d), cV G true, .int (nI c0)])).length) Slot.unset).toArray = ls at hl ⊢
    have hl : lv_has ls 4 [(0, .ref h), (1, .int (nI d)), (2, cV G true), (3, .int (nI c0))] := hl
    have hl : lv_has ls 4 [(0, .ref h), (1, .int (nI d)), (2, .null), (3, .int (nI c0))] := hl
    refine lv_aload_n hx hb dX3_init_2_0 rfl (lv_at hl 0 rfl) ?_
    refine lv_aload_nN hx hb dX3_init_2_1 rfl (lv_at hl 2 rfl) ?_
    refine lv_iload_n hx hb dX3_init_2_2 rfl (lv_at hl 3 rfl) ?_
    have hPc := hP.sub (ws' := [(h, .inr (0, [.null, .null, .int (nI 0), .int (nI 0), .int (nI 0)]))]) [0] rfl
    have hDc := hD.sub (ws' := [(h, .inr (0, [.null, .null, .int (nI 0), .int (nI 0), .int (nI 0)]))]) [0] (by decide) rfl
    have hFc := va_free (wc := [(h, .inr (0, [.null, .null, .int (nI 0), .int (nI 0), .int (nI 0)]))]) hD hS hA [0] rfl
    refine va_callv (va_runI (As := [.null, .int (nI c0)]) (rest := []) ⟨hx, hb, hml, hown, hts⟩ (m_ahI l G _ h c0 true hc hPc (hDc.weaken (fun _ _ _ _ => trivial))) (cwI 2 hts (lw_meth q45) rfl rfl rfl (hts _ q6) (hts _ q43) (hts _ q44) rfl (by decide +kernel) ⟨Nat.le_of_ble_eq_true rfl, Nat.le_of_ble_eq_true rfl⟩) (PcG.s (hG.sub hS hFc)) rfl rfl hl.1 rfl (lv_room (Nat.le_of_ble_eq_true rfl)) dX3_init_2_3 ⟨Nat.le_of_ble_eq_true rfl, Nat.le_of_ble_eq_true rfl⟩) hS (fun q _ h => hFc q h) hFc (fun u t H38 locs ht hvm hw hB hz1 hk1 hS => ?_)
    try dsimp only at hB
    rw [ht] at hB
    obtain ⟨hP, hD1⟩ := hB
    have hD := hD1.weaken (B := A) (fun _ q _ h => hFc q.1 h)
    have hP : va_P G.1 vwCl [(h, .inr (0, [.null, .ref u, .int (nI 0), .int (nI 16), .int (nI 0)])), (u, .inl (G.2.1 0, qA (16 + 1) (fun _ => none)))] H38 := hP
    have hD : va_D A [(h, .inr (0, [.null, .ref u, .int (nI 0), .int (nI 16), .int (nI 0)])), (u, .inl (G.2.1 0, qA (16 + 1) (fun _ => none)))] := hD
    refine lv_iload_n hx hb dX3_init_2_6 rfl (lv_at hl 1 rfl) ?_
    refine lv_iconst (v := nI 2) hx hb dX3_init_2_7 (by decide) ?_
    refine bn_ge (tgt := 21) hx hb dX3_init_2_8 (by decide) (by omega) (by omega) (fun c1 => ?_) (fun c1 => ?_)
    · refine lv_aload_n hx hb dX3_init_2_21 rfl (lv_at hl 0 rfl) ?_
      refine lv_iload_n hx hb dX3_init_2_22 rfl (lv_at hl 1 rfl) ?_
      refine va_put (D := G.1) (ci := 0) (v := .int (nI d)) (ty := .int) (C := RX3) (T := TX3) (N := 5) hx hb hts in_X3 tyX3 tyX3_ok nmX3 hown hK hP hD hS 0 rfl rfl 4 (by decide) (hts _ q152) (fun _ h9 => h9) rfl (by decide +kernel) rfl rfl (Nat.le_of_ble_eq_true rfl) dX3_init_2_23 (fun H39 locs hP hD hS => ?_)
      have hP : va_P G.1 vwCl [(h, .inr (0, [.null, .ref u, .int (nI 0), .int (nI 16), .int (nI d)])), (u, .inl (G.2.1 0, qA (16 + 1) (fun _ => none)))] H39 := hP
      have hD : va_D A [(h, .inr (0, [.null, .ref u, .int (nI 0), .int (nI 16), .int (nI d)])), (u, .inl (G.2.1 0, qA (16 + 1) (fun _ => none)))] := hD
      refine W.widen (k := 1) (n := 17) (by decide) (by decide) ?_
      exact W.vret hx hb hr (fun t ht hW => ⟨⟨u, rfl, trivial, by rw [ht]; exact hP, hD⟩, hS.F ht⟩) hS.2.2 dX3_init_2_26
    · exact absurd c1 (by omega)
  | false =>
    refine Met.ofW (cc := cX3_init_2) (maxL := 4) (ret := none) (by decide) rfl ?_
    intro p e s m args below meth c s₁ B hml hv
    obtain ⟨rfl, rfl, hG⟩ := hv
    have hx := B.exec
    have hb := B.bytes
    have hr := B.returns
    have hts := atoms_spec (ws := ws_ yX3_init_2 cX3_init_2 4 none) B.pre
    have hts : ∀ w ∈ lw_all, w.before _ s = true := fun w h => hts w (List.mem_cons_of_mem _ h)
    have hown : s.vm.findClass RX3 = some m.cls := findClass_of_methodNamed B.named
    have hlocks := B.notSynchronized
    have hin : meth.name = "<init>" := (name_of_methodNamed B.named B.method).1
    have hK := hG.K
    have hbk : ∀ (H : Heap) (locs : List Loc), va_S (va_A [(h, .inr (0, [.null, .null, .int (nI 0), .int (nI 0), .int (nI 0)]))] s.heap.size) s.heap H locs → bK G s.heap H := fun H locs h => bK.of hK hP (nI_o (by decide) nI_nil) h.2.1
    have hD := hD.self (sz := s.heap.size)
    generalize hAe : va_A [(h, .inr (0, [.null, .null, .int (nI 0), .int (nI 0), .int (nI 0)]))] s.heap.size = A at hD hG hbk ⊢
    have hA : ∀ q : Nat, s.heap.size ≤ q → A q := fun q h => by rw [← hAe]; exact Or.inr h
    have hS : va_S A s.heap s.heap [] := va_S.rf
    have hl := lv_entry ([.ref h, .int (nI d), cV G false, .int (nI c0)]) (n := 4) (Nat.le_of_ble_eq_true rfl)
    rw [lg_entry_eq]
    generalize (lg_sl ([.ref h, .int (nI d), cV G false, .int (nI c0)]) ++ List.replicate (4 - (lg_sl ([.ref h, .int (nI d), cV G false, .int (nI c0)])).length) Slot.unset).toArray = ls at hl ⊢
    have hl : lv_has ls 4 [(0, .ref h), (1, .int (nI d)), (2, cV G false), (3, .int (nI c0))] := hl
    have hl : lv_has ls 4 [(0, .ref h), (1, .int (nI d)), (2, .ref ((G.2.2 1))), (3, .int (nI c0))] := hl
    refine lv_aload_n hx hb dX3_init_2_0 rfl (lv_at hl 0 rfl) ?_
    refine lv_aload_n hx hb dX3_init_2_1 rfl (lv_at hl 2 rfl) ?_
    refine lv_iload_n hx hb dX3_init_2_2 rfl (lv_at hl 3 rfl) ?_
    have hPc := hP.sub (ws' := [(h, .inr (0, [.null, .null, .int (nI 0), .int (nI 0), .int (nI 0)]))]) [0] rfl
    have hDc := hD.sub (ws' := [(h, .inr (0, [.null, .null, .int (nI 0), .int (nI 0), .int (nI 0)]))]) [0] (by decide) rfl
    have hFc := va_free (wc := [(h, .inr (0, [.null, .null, .int (nI 0), .int (nI 0), .int (nI 0)]))]) hD hS hA [0] rfl
    refine va_callv (va_runI (As := [.ref ((G.2.2 1)), .int (nI c0)]) (rest := []) ⟨hx, hb, hml, hown, hts⟩ (m_ahI l G _ h c0 false hc hPc (hDc.weaken (fun _ _ _ _ => trivial))) (cwI 2 hts (lw_meth q45) rfl rfl rfl (hts _ q6) (hts _ q43) (hts _ q44) rfl (by decide +kernel) ⟨Nat.le_of_ble_eq_true rfl, Nat.le_of_ble_eq_true rfl⟩) (PcG.s (hG.sub hS hFc)) rfl rfl hl.1 rfl (lv_room (Nat.le_of_ble_eq_true rfl)) dX3_init_2_3 ⟨Nat.le_of_ble_eq_true rfl, Nat.le_of_ble_eq_true rfl⟩) hS (fun q _ h => hFc q h) hFc (fun u t H40 locs ht hvm hw hB hz1 hk1 hS => ?_)
    try dsimp only at hB
    rw [ht] at hB
    obtain ⟨hP, hD1⟩ := hB
    have hD := hD1.weaken (B := A) (fun _ q _ h => hFc q.1 h)
    have hP : va_P G.1 vwCl [(h, .inr (0, [.ref ((G.2.2 1)), .ref u, .int (nI 0), .int (nI 16), .int (nI 0)])), (u, .inl (G.2.1 0, qA (16 + 1) (fun _ => none)))] H40 := hP
    have hD : va_D A [(h, .inr (0, [.ref ((G.2.2 1)), .ref u, .int (nI 0), .int (nI 16), .int (nI 0)])), (u, .inl (G.2.1 0, qA (16 + 1) (fun _ => none)))] := hD
    refine lv_iload_n hx hb dX3_init_2_6 rfl (lv_at hl 1 rfl) ?_
    refine lv_iconst (v := nI 2) hx hb dX3_init_2_7 (by decide) ?_
    refine bn_ge (tgt := 21) hx hb dX3_init_2_8 (by decide) (by omega) (by omega) (fun c1 => ?_) (fun c1 => ?_)
    · refine lv_aload_n hx hb dX3_init_2_21 rfl (lv_at hl 0 rfl) ?_
      refine lv_iload_n hx hb dX3_init_2_22 rfl (lv_at hl 1 rfl) ?_
      refine va_put (D := G.1) (ci := 0) (v := .int (nI d)) (ty := .int) (C := RX3) (T := TX3) (N := 5) hx hb hts in_X3 tyX3 tyX3_ok nmX3 hown hK hP hD hS 0 rfl rfl 4 (by decide) (hts _ q152) (fun _ h9 => h9) rfl (by decide +kernel) rfl rfl (Nat.le_of_ble_eq_true rfl) dX3_init_2_23 (fun H41 locs hP hD hS => ?_)
      have hP : va_P G.1 vwCl [(h, .inr (0, [.ref ((G.2.2 1)), .ref u, .int (nI 0), .int (nI 16), .int (nI d)])), (u, .inl (G.2.1 0, qA (16 + 1) (fun _ => none)))] H41 := hP
      have hD : va_D A [(h, .inr (0, [.ref ((G.2.2 1)), .ref u, .int (nI 0), .int (nI 16), .int (nI d)])), (u, .inl (G.2.1 0, qA (16 + 1) (fun _ => none)))] := hD
      refine W.widen (k := 1) (n := 17) (by decide) (by decide) ?_
      exact W.vret hx hb hr (fun t ht hW => ⟨⟨u, rfl, trivial, by rw [ht]; exact hP, hD⟩, hS.F ht⟩) hS.2.2 dX3_init_2_26
    · exact absurd c1 (by omega)
set_option maxHeartbeats 4000000 in
set_option maxRecDepth 100000 in
/-- DaryArrayHeap(d) -/
theorem m_dI1 (l : Launch) (G : gG) (H0 : Heap) (h d : Nat) (hd : d = 2 ∨ d = 3) (hP : va_P G.1 vwCl [(h, .inr (0, [.null, .null, .int (nI 0), .int (nI 0), .int (nI 0)]))] H0) (hD : va_D (fun _ => True) [(h, .inr (0, [.null, .null, .int (nI 0), .int (nI 0), .int (nI 0)]))]) : Met l yX3_init (ws_ yX3_init cX3_init 2 none) ({ frames := 4, cells := 1, slots := 17, locals := 88 }) (PcG G [.ref h, .int (nI d)] H0 (va_A [(h, .inr (0, [.null, .null, .int (nI 0), .int (nI 0), .int (nI 0)]))] H0.size)) (va_Qv (fun _ : Nat => True) (fun a t => va_P G.1 vwCl (wH G h a 16 0 d (cV G true) (fun _ => none)) t.heap ∧ va_D (va_A [(h, .inr (0, [.null, .null, .int (nI 0), .int (nI 0), .int (nI 0)]))] H0.size) (wH G h a 16 0 d (cV G true) (fun _ => none))) (va_A [(h, .inr (0, [.null, .null, .int (nI 0), .int (nI 0), .int (nI 0)]))] H0.size)) 1 17 (va_A [(h, .inr (0, [.null, .null, .int (nI 0), .int (nI 0), .int (nI 0)]))] H0.size) := by
  refine Met.ofW (cc := cX3_init) (maxL := 2) (ret := none) (by decide) rfl ?_
  intro p e s m args below meth c s₁ B hml hv
  obtain ⟨rfl, rfl, hG⟩ := hv
  have hx := B.exec
  have hb := B.bytes
  have hr := B.returns
  have hts := atoms_spec (ws := ws_ yX3_init cX3_init 2 none) B.pre
  have hts : ∀ w ∈ lw_all, w.before _ s = true := fun w h => hts w (List.mem_cons_of_mem _ h)
  have hown : s.vm.findClass RX3 = some m.cls := findClass_of_methodNamed B.named
  have hlocks := B.notSynchronized
  have hin : meth.name = "<init>" := (name_of_methodNamed B.named B.method).1
  have hK := hG.K
  have hbk : ∀ (H : Heap) (locs : List Loc), va_S (va_A [(h, .inr (0, [.null, .null, .int (nI 0), .int (nI 0), .int (nI 0)]))] s.heap.size) s.heap H locs → bK G s.heap H := fun H locs h => bK.of hK hP (nI_o (by decide) nI_nil) h.2.1
  have hD := hD.self (sz := s.heap.size)
  generalize hAe : va_A [(h, .inr (0, [.null, .null, .int (nI 0), .int (nI 0), .int (nI 0)]))] s.heap.size = A at hD hG hbk ⊢
  have hA : ∀ q : Nat, s.heap.size ≤ q → A q := fun q h => by rw [← hAe]; exact Or.inr h
  have hS : va_S A s.heap s.heap [] := va_S.rf
  have hl := lv_entry ([.ref h, .int (nI d)]) (n := 2) (Nat.le_of_ble_eq_true rfl)
  rw [lg_entry_eq]
  generalize (lg_sl ([.ref h, .int (nI d)]) ++ List.replicate (2 - (lg_sl ([.ref h, .int (nI d)])).length) Slot.unset).toArray = ls at hl ⊢
  have hl : lv_has ls 2 [(0, .ref h), (1, .int (nI d))] := hl
  refine lv_aload_n hx hb dX3_init_0 rfl (lv_at hl 0 rfl) ?_
  refine lv_iload_n hx hb dX3_init_1 rfl (lv_at hl 1 rfl) ?_
  refine lv_null hx hb dX3_init_2 ?_
  refine lv_bipush (v := nI 16) hx hb dX3_init_3 (by decide) ?_
  have hPc := hP.sub (ws' := [(h, .inr (0, [.null, .null, .int (nI 0), .int (nI 0), .int (nI 0)]))]) [0] rfl
  have hDc := hD.sub (ws' := [(h, .inr (0, [.null, .null, .int (nI 0), .int (nI 0), .int (nI 0)]))]) [0] (by decide) rfl
  have hFc := va_free (wc := [(h, .inr (0, [.null, .null, .int (nI 0), .int (nI 0), .int (nI 0)]))]) hD hS hA [0] rfl
  refine va_callv (va_runI (As := [.int (nI d), .null, .int (nI 16)]) (rest := []) ⟨hx, hb, hml, hown, hts⟩ (m_dI2 l G _ h d 16 true (by decide) hd hPc (hDc.weaken (fun _ _ _ _ => trivial))) (cwI 3 hts (lw_meth q42) rfl rfl rfl (hts _ q7) (hts _ q40) (hts _ q41) rfl (by decide +kernel) ⟨Nat.le_of_ble_eq_true rfl, Nat.le_of_ble_eq_true rfl⟩) (PcG.s (hG.sub hS hFc)) rfl rfl hl.1 rfl (lv_room (Nat.le_of_ble_eq_true rfl)) dX3_init_5 ⟨Nat.le_of_ble_eq_true rfl, Nat.le_of_ble_eq_true rfl⟩) hS (fun q _ h => hFc q h) hFc (fun u t H42 locs ht hvm hw hB hz1 hk1 hS => ?_)
  try dsimp only at hB
  rw [ht] at hB
  obtain ⟨hP, hD1⟩ := hB
  refine W.widen (k := 1) (n := 17) (by decide) (by decide) ?_
  exact W.vret hx hb hr (fun t ht hW => ⟨⟨u, rfl, trivial, by rw [ht]; exact hP, hD1.weaken (fun _ q _ h => hFc q.1 h)⟩, hS.F ht⟩) hS.2.2 dX3_init_8
set_option maxHeartbeats 4000000 in
set_option maxRecDepth 100000 in
/-- DaryArrayHeap(d, DOWN) -/
theorem m_dI3 (l : Launch) (G : gG) (H0 : Heap) (h d : Nat) (hd : d = 2 ∨ d = 3) (hP : va_P G.1 vwCl [(h, .inr (0, [.null, .null, .int (nI 0), .int (nI 0), .int (nI 0)]))] H0) (hD : va_D (fun _ => True) [(h, .inr (0, [.null, .null, .int (nI 0), .int (nI 0), .int (nI 0)]))]) : Met l yX3_init_3 (ws_ yX3_init_3 cX3_init_3 3 none) ({ frames := 4, cells := 1, slots := 17, locals := 88 }) (PcG G [.ref h, .int (nI d), .ref ((G.2.2 1))] H0 (va_A [(h, .inr (0, [.null, .null, .int (nI 0), .int (nI 0), .int (nI 0)]))] H0.size)) (va_Qv (fun _ : Nat => True) (fun a t => va_P G.1 vwCl (wH G h a 16 0 d (cV G false) (fun _ => none)) t.heap ∧ va_D (va_A [(h, .inr (0, [.null, .null, .int (nI 0), .int (nI 0), .int (nI 0)]))] H0.size) (wH G h a 16 0 d (cV G false) (fun _ => none))) (va_A [(h, .inr (0, [.null, .null, .int (nI 0), .int (nI 0), .int (nI 0)]))] H0.size)) 1 17 (va_A [(h, .inr (0, [.null, .null, .int (nI 0), .int (nI 0), .int (nI 0)]))] H0.size) := by
  refine Met.ofW (cc := cX3_init_3) (maxL := 3) (ret := none) (by decide) rfl ?_
  intro p e s m args below meth c s₁ B hml hv
  obtain ⟨rfl, rfl, hG⟩ := hv
  have hx := B.exec
  have hb := B.bytes
  have hr := B.returns
  have hts := atoms_spec (ws := ws_ yX3_init_3 cX3_init_3 3 none) B.pre
  have hts : ∀ w ∈ lw_all, w.before _ s = true := fun w h => hts w (List.mem_cons_of_mem _ h)
  have hown : s.vm.findClass RX3 = some m.cls := findClass_of_methodNamed B.named
  have hlocks := B.notSynchronized
  have hin : meth.name = "<init>" := (name_of_methodNamed B.named B.method).1
  have hK := hG.K
  have hbk : ∀ (H : Heap) (locs : List Loc), va_S (va_A [(h, .inr (0, [.null, .null, .int (nI 0), .int (nI 0), .int (nI 0)]))] s.heap.size) s.heap H locs → bK G s.heap H := fun H locs h => bK.of hK hP (nI_o (by decide) nI_nil) h.2.1
  have hD := hD.self (sz := s.heap.size)
  generalize hAe : va_A [(h, .inr (0, [.null, .null, .int (nI 0), .int (nI 0), .int (nI 0)]))] s.heap.size = A at hD hG hbk ⊢
  have hA : ∀ q : Nat, s.heap.size ≤ q → A q := fun q h => by rw [← hAe]; exact Or.inr h
  have hS : va_S A s.heap s.heap [] := va_S.rf
  have hl := lv_entry ([.ref h, .int (nI d), .ref ((G.2.2 1))]) (n := 3) (Nat.le_of_ble_eq_true rfl)
  rw [lg_entry_eq]
  generalize (lg_sl ([.ref h, .int (nI d), .ref ((G.2.2 1))]) ++ List.replicate (3 - (lg_sl ([.ref h, .int (nI d), .ref ((G.2.2 1))])).length) Slot.unset).toArray = ls at hl ⊢
  have hl : lv_has ls 3 [(0, .ref h), (1, .int (nI d)), (2, .ref ((G.2.2 1)))] := hl
  refine lv_aload_n hx hb dX3_init_3_0 rfl (lv_at hl 0 rfl) ?_
  refine lv_iload_n hx hb dX3_init_3_1 rfl (lv_at hl 1 rfl) ?_
  refine lv_aload_n hx hb dX3_init_3_2 rfl (lv_at hl 2 rfl) ?_
  refine lv_bipush (v := nI 16) hx hb dX3_init_3_3 (by decide) ?_
  have hPc := hP.sub (ws' := [(h, .inr (0, [.null, .null, .int (nI 0), .int (nI 0), .int (nI 0)]))]) [0] rfl
  have hDc := hD.sub (ws' := [(h, .inr (0, [.null, .null, .int (nI 0), .int (nI 0), .int (nI 0)]))]) [0] (by decide) rfl
  have hFc := va_free (wc := [(h, .inr (0, [.null, .null, .int (nI 0), .int (nI 0), .int (nI 0)]))]) hD hS hA [0] rfl
  refine va_callv (va_runI (As := [.int (nI d), .ref ((G.2.2 1)), .int (nI 16)]) (rest := []) ⟨hx, hb, hml, hown, hts⟩ (m_dI2 l G _ h d 16 false (by decide) hd hPc (hDc.weaken (fun _ _ _ _ => trivial))) (cwI 3 hts (lw_meth q42) rfl rfl rfl (hts _ q7) (hts _ q40) (hts _ q41) rfl (by decide +kernel) ⟨Nat.le_of_ble_eq_true rfl, Nat.le_of_ble_eq_true rfl⟩) (PcG.s (hG.sub hS hFc)) rfl rfl hl.1 rfl (lv_room (Nat.le_of_ble_eq_true rfl)) dX3_init_3_5 ⟨Nat.le_of_ble_eq_true rfl, Nat.le_of_ble_eq_true rfl⟩) hS (fun q _ h => hFc q h) hFc (fun u t H43 locs ht hvm hw hB hz1 hk1 hS => ?_)
  try dsimp only at hB
  rw [ht] at hB
  obtain ⟨hP, hD1⟩ := hB
  refine W.widen (k := 1) (n := 17) (by decide) (by decide) ?_
  exact W.vret hx hb hr (fun t ht hW => ⟨⟨u, rfl, trivial, by rw [ht]; exact hP, hD1.weaken (fun _ q _ h => hFc q.1 h)⟩, hS.F ht⟩) hS.2.2 dX3_init_3_8
set_option maxHeartbeats 4000000 in
set_option maxRecDepth 100000 in
/-- DaryArrayHeap(d, c) -/
theorem m_dI4 (l : Launch) (G : gG) (H0 : Heap) (h d c0 : Nat) (hc : c0 ≤ 16) (hd : d = 2 ∨ d = 3) (hP : va_P G.1 vwCl [(h, .inr (0, [.null, .null, .int (nI 0), .int (nI 0), .int (nI 0)]))] H0) (hD : va_D (fun _ => True) [(h, .inr (0, [.null, .null, .int (nI 0), .int (nI 0), .int (nI 0)]))]) : Met l yX3_init_4 (ws_ yX3_init_4 cX3_init_4 3 none) ({ frames := 4, cells := 1, slots := 17, locals := 88 }) (PcG G [.ref h, .int (nI d), .int (nI c0)] H0 (va_A [(h, .inr (0, [.null, .null, .int (nI 0), .int (nI 0), .int (nI 0)]))] H0.size)) (va_Qv (fun _ : Nat => True) (fun a t => va_P G.1 vwCl (wH G h a 16 0 d (cV G true) (fun _ => none)) t.heap ∧ va_D (va_A [(h, .inr (0, [.null, .null, .int (nI 0), .int (nI 0), .int (nI 0)]))] H0.size) (wH G h a 16 0 d (cV G true) (fun _ => none))) (va_A [(h, .inr (0, [.null, .null, .int (nI 0), .int (nI 0), .int (nI 0)]))] H0.size)) 1 17 (va_A [(h, .inr (0, [.null, .null, .int (nI 0), .int (nI 0), .int (nI 0)]))] H0.size) := by
  refine Met.ofW (cc := cX3_init_4) (maxL := 3) (ret := none) (by decide) rfl ?_
  intro p e s m args below meth c s₁ B hml hv
  obtain ⟨rfl, rfl, hG⟩ := hv
  have hx := B.exec
  have hb := B.bytes
  have hr := B.returns
  have hts := atoms_spec (ws := ws_ yX3_init_4 cX3_init_4 3 none) B.pre
  have hts : ∀ w ∈ lw_all, w.before _ s = true := fun w h => hts w (List.mem_cons_of_mem _ h)
  have hown : s.vm.findClass RX3 = some m.cls := findClass_of_methodNamed B.named
  have hlocks := B.notSynchronized
  have hin : meth.name = "<init>" := (name_of_methodNamed B.named B.method).1
  have hK := hG.K
  have hbk : ∀ (H : Heap) (locs : List Loc), va_S (va_A [(h, .inr (0, [.null, .null, .int (nI 0), .int (nI 0), .int (nI 0)]))] s.heap.size) s.heap H locs → bK G s.heap H := fun H locs h => bK.of hK hP (nI_o (by decide) nI_nil) h.2.1
  have hD := hD.self (sz := s.heap.size)
  generalize hAe : va_A [(h, .inr (0, [.null, .null, .int (nI 0), .int (nI 0), .int (nI 0)]))] s.heap.size = A at hD hG hbk ⊢
  have hA : ∀ q : Nat, s.heap.size ≤ q → A q := fun q h => by rw [← hAe]; exact Or.inr h
  have hS : va_S A s.heap s.heap [] := va_S.rf
  have hl := lv_entry ([.ref h, .int (nI d), .int (nI c0)]) (n := 3) (Nat.le_of_ble_eq_true rfl)
  rw [lg_entry_eq]
  generalize (lg_sl ([.ref h, .int (nI d), .int (nI c0)]) ++ List.replicate (3 - (lg_sl ([.ref h, .int (nI d), .int (nI c0)])).length) Slot.unset).toArray = ls at hl ⊢
  have hl : lv_has ls 3 [(0, .ref h), (1, .int (nI d)), (2, .int (nI c0))] := hl
  refine lv_aload_n hx hb dX3_init_4_0 rfl (lv_at hl 0 rfl) ?_
  refine lv_iload_n hx hb dX3_init_4_1 rfl (lv_at hl 1 rfl) ?_
  refine lv_null hx hb dX3_init_4_2 ?_
  refine lv_iload_n hx hb dX3_init_4_3 rfl (lv_at hl 2 rfl) ?_
  have hPc := hP.sub (ws' := [(h, .inr (0, [.null, .null, .int (nI 0), .int (nI 0), .int (nI 0)]))]) [0] rfl
  have hDc := hD.sub (ws' := [(h, .inr (0, [.null, .null, .int (nI 0), .int (nI 0), .int (nI 0)]))]) [0] (by decide) rfl
  have hFc := va_free (wc := [(h, .inr (0, [.null, .null, .int (nI 0), .int (nI 0), .int (nI 0)]))]) hD hS hA [0] rfl
  refine va_callv (va_runI (As := [.int (nI d), .null, .int (nI c0)]) (rest := []) ⟨hx, hb, hml, hown, hts⟩ (m_dI2 l G _ h d c0 true hc hd hPc (hDc.weaken (fun _ _ _ _ => trivial))) (cwI 3 hts (lw_meth q42) rfl rfl rfl (hts _ q7) (hts _ q40) (hts _ q41) rfl (by decide +kernel) ⟨Nat.le_of_ble_eq_true rfl, Nat.le_of_ble_eq_true rfl⟩) (PcG.s (hG.sub hS hFc)) rfl rfl hl.1 rfl (lv_room (Nat.le_of_ble_eq_true rfl)) dX3_init_4_4 ⟨Nat.le_of_ble_eq_true rfl, Nat.le_of_ble_eq_true rfl⟩) hS (fun q _ h => hFc q h) hFc (fun u t H44 locs ht hvm hw hB hz1 hk1 hS => ?_)
  try dsimp only at hB
  rw [ht] at hB
  obtain ⟨hP, hD1⟩ := hB
  refine W.widen (k := 1) (n := 17) (by decide) (by decide) ?_
  exact W.vret hx hb hr (fun t ht hW => ⟨⟨u, rfl, trivial, by rw [ht]; exact hP, hD1.weaken (fun _ q _ h => hFc q.1 h)⟩, hS.F ht⟩) hS.2.2 dX3_init_4_7
set_option maxHeartbeats 4000000 in
set_option maxRecDepth 100000 in
/-- ensureCapacity(c): a new array with what was held -/
theorem m_ens (l : Launch) (G : gG) (H0 : Heap) (h a cap n d c1 : Nat) (c0 : Value) (f : Nat → Option Nat) (v : Nat → Int32) (hn : n ≤ cap) (hcap : cap ≤ 1000) (hnc : n ≤ c1) (hc1 : c1 ≤ 128) (hbx : bxs G H0 f n v) (hP : va_P G.1 vwCl (wH G h a cap n d c0 f) H0) (hD : va_D (fun _ => True) (wH G h a cap n d c0 f)) : Met l yX3_ensureCapacity (ws_ yX3_ensureCapacity cX3_ensureCapacity 3 none) ({ frames := 1, cells := 1, slots := 129, locals := 21 }) (PcG G [.ref h, .int (nI c1)] H0 (va_A (wH G h a cap n d c0 f) H0.size)) (va_Qv (fun u : Nat × (Nat → Option Nat) => ∀ j : Nat, 1 ≤ j → j ≤ n → u.2 j = f j) (fun u t => va_P G.1 vwCl (wH G h u.1 c1 n d c0 u.2) t.heap ∧ va_D (va_A (wH G h a cap n d c0 f) H0.size) (wH G h u.1 c1 n d c0 u.2) ∧ bxs G t.heap u.2 n v) (va_A (wH G h a cap n d c0 f) H0.size)) 1 129 (va_A (wH G h a cap n d c0 f) H0.size) := by
  refine Met.ofW (cc := cX3_ensureCapacity) (maxL := 3) (ret := none) (by decide) rfl ?_
  intro p e s m args below meth c s₁ B hml hv
  obtain ⟨rfl, rfl, hG⟩ := hv
  have hx := B.exec
  have hb := B.bytes
  have hr := B.returns
  have hts := atoms_spec (ws := ws_ yX3_ensureCapacity cX3_ensureCapacity 3 none) B.pre
  have hts : ∀ w ∈ lw_all, w.before _ s = true := fun w h => hts w (List.mem_cons_of_mem _ h)
  have hown : s.vm.findClass RX3 = some m.cls := findClass_of_methodNamed B.named
  have hlocks := B.notSynchronized
  have hK := hG.K
  have hbk : ∀ (H : Heap) (locs : List Loc), va_S (va_A (wH G h a cap n d c0 f) s.heap.size) s.heap H locs → bK G s.heap H := fun H locs h => bK.of hK hP (wH_nI) h.2.1
  have hD := hD.self (sz := s.heap.size)
  generalize hAe : va_A (wH G h a cap n d c0 f) s.heap.size = A at hD hG hbk ⊢
  have hA : ∀ q : Nat, s.heap.size ≤ q → A q := fun q h => by rw [← hAe]; exact Or.inr h
  have hS : va_S A s.heap s.heap [] := va_S.rf
  have hl := lv_entry ([.ref h, .int (nI c1)]) (n := 3) (Nat.le_of_ble_eq_true rfl)
  rw [lg_entry_eq]
  generalize (lg_sl ([.ref h, .int (nI c1)]) ++ List.replicate (3 - (lg_sl ([.ref h, .int (nI c1)])).length) Slot.unset).toArray = ls at hl ⊢
  have hl : lv_has ls 3 [(0, .ref h), (1, .int (nI c1))] := hl
  refine lv_aload_n hx hb dX3_ensureCapacity_0 rfl (lv_at hl 0 rfl) ?_
  refine lv_iload_n hx hb dX3_ensureCapacity_1 rfl (lv_at hl 1 rfl) ?_
  refine va_csv (va_Run.run (va_runU (As := [.int (nI c1)]) (rest := []) ⟨hx, hb, hml, hown, hts⟩ (m_chk l G _ h c1 (by omega)) (va_cwU 1 hts (lw_U (C := "DaryArrayHeap") (owner := "AbstractArrayWeakHeap") (x := ⟨"DaryArrayHeap", "checkCapacity", "(I)V"⟩) (y := yX1_checkCapacity) q248 q249 q251 q51 q5 q54) rfl rfl rfl rfl (by decide +kernel) ⟨Nat.le_of_ble_eq_true rfl, Nat.le_of_ble_eq_true rfl⟩) (PcG.v (va_recv hK hP (ci := 0) (q0 := 0) (q := (RX3, TX3, 5)) rfl rfl) (hG.ro hS)) rfl rfl hl.1 rfl (lv_room (Nat.le_of_ble_eq_true rfl)) dX3_ensureCapacity_2 ⟨Nat.le_of_ble_eq_true rfl, Nat.le_of_ble_eq_true rfl⟩)) (fun _ => ?_)
  refine lv_iload_n hx hb dX3_ensureCapacity_5 rfl (lv_at hl 1 rfl) ?_
  refine lv_iconst (v := nI 1) hx hb dX3_ensureCapacity_6 (by decide) ?_
  refine lv_iadd hx hb dX3_ensureCapacity_7 ?_
  refine lv_tn (nI (c1 + 1)) (nI_add _ _) ?_
  refine nwq (C := "java/lang/Object") hx hb hown (hts _ q252) hG.N.aoO hK 0 rfl hP hD hS hA (by omega) (Nat.le_of_ble_eq_true rfl) (by show 0 + (c1 + 1) ≤ 129; omega) dX3_ensureCapacity_8 (fun q H45 hP hD hS => ?_)
  have hP : va_P G.1 vwCl [(h, .inr (0, [c0, .ref a, .int (nI n), .int (nI 16), .int (nI d)])), (a, .inl (G.2.1 0, qA (cap + 1) (f))), (q, .inl (G.2.1 0, qA (c1 + 1) (fun _ => none)))] H45 := hP
  have hD : va_D A [(h, .inr (0, [c0, .ref a, .int (nI n), .int (nI 16), .int (nI d)])), (a, .inl (G.2.1 0, qA (cap + 1) (f))), (q, .inl (G.2.1 0, qA (c1 + 1) (fun _ => none)))] := hD
  refine lv_astore_n (lv' := [(2, .ref q), (0, .ref h), (1, .int (nI c1))]) hx hb dX3_ensureCapacity_11 rfl hl (by decide) rfl (fun ls hl => ?_)
  refine lv_aload_n hx hb dX3_ensureCapacity_12 rfl (lv_at hl 1 rfl) ?_
  refine va_get (D := G.1) (ci := 0) (v := .ref a) (C := RX3) (T := TX3) (N := 5) hx hb hts in_X3 hown hK hP 0 rfl rfl 1 (by decide) (hts _ q160) (fun x9 h9 => u_same (hts _ q161) x9 h9) rfl dX3_ensureCapacity_13 ?_
  refine lv_iconst (v := nI 1) hx hb dX3_ensureCapacity_16 (by decide) ?_
  refine lv_aload_n hx hb dX3_ensureCapacity_17 rfl (lv_at hl 0 rfl) ?_
  refine lv_iconst (v := nI 1) hx hb dX3_ensureCapacity_18 (by decide) ?_
  refine lv_aload_n hx hb dX3_ensureCapacity_19 rfl (lv_at hl 1 rfl) ?_
  refine va_get (D := G.1) (ci := 0) (v := .int (nI n)) (C := RX3) (T := TX3) (N := 5) hx hb hts in_X3 hown hK hP 0 rfl rfl 2 (by decide) (hts _ q165) (fun x9 h9 => u_same (hts _ q166) x9 h9) rfl dX3_ensureCapacity_20 ?_
  refine va_copyq (C := "java/lang/Integer") hx hb (by rw [hml]; exact hl.1.symm) hown (hts _ q253) (hts _ q255) (hts _ q254) (hts _ q18) hK hP hD hS 1 2 0 0 rfl rfl rfl rfl (nI_pos (by decide)) (nI_pos (by decide)) (nI_pos (by omega)) (by rw [nI_clamp (by decide), nI_clamp (by omega)]; omega) (by rw [nI_clamp (by decide), nI_clamp (by omega)]; omega) (fun i hi y hy => by
    rw [nI_clamp (by decide)] at hy
    rw [nI_clamp (by omega)] at hi
    obtain ⟨y9, hf9, hy9⟩ := hbx (1 + i) (by omega) (by omega)
    cases hf9.symm.trans hy
    exact bx.recv hK (hbk _ _ hS _ _ hy9)) (vb_asgC hG.N.toO) (Nat.le_of_ble_eq_true rfl) (Nat.le_of_ble_eq_true rfl) dX3_ensureCapacity_23 (fun H46 locs hP hD hS => ?_)
  rw [nI_clamp (by decide), nI_clamp (show n < 2 ^ 31 by omega)] at hP hD
  have hP : va_P G.1 vwCl [(h, .inr (0, [c0, .ref a, .int (nI n), .int (nI 16), .int (nI d)])), (a, .inl (G.2.1 0, qA (cap + 1) (f))), (q, .inl (G.2.1 0, qA (c1 + 1) (va_cpy f (fun _ => none) 1 1 n)))] H46 := hP
  have hD : va_D A [(h, .inr (0, [c0, .ref a, .int (nI n), .int (nI 16), .int (nI d)])), (a, .inl (G.2.1 0, qA (cap + 1) (f))), (q, .inl (G.2.1 0, qA (c1 + 1) (va_cpy f (fun _ => none) 1 1 n)))] := hD
  refine lv_aload_n hx hb dX3_ensureCapacity_26 rfl (lv_at hl 1 rfl) ?_
  refine lv_aload_n hx hb dX3_ensureCapacity_27 rfl (lv_at hl 0 rfl) ?_
  refine va_put (D := G.1) (ci := 0) (v := .ref q) (ty := .array (.object "java/lang/Object")) (C := RX3) (T := TX3) (N := 5) hx hb hts in_X3 tyX3 tyX3_ok nmX3 hown hK hP hD hS 0 rfl rfl 1 (by decide) (hts _ q160) (fun x9 h9 => u_same (hts _ q161) x9 h9) rfl (by decide +kernel) rfl rfl (Nat.le_of_ble_eq_true rfl) dX3_ensureCapacity_28 (fun H47 locs hP hD hS => ?_)
  have hP : va_P G.1 vwCl [(h, .inr (0, [c0, .ref q, .int (nI n), .int (nI 16), .int (nI d)])), (a, .inl (G.2.1 0, qA (cap + 1) (f))), (q, .inl (G.2.1 0, qA (c1 + 1) (va_cpy f (fun _ => none) 1 1 n)))] H47 := hP
  have hD : va_D A [(h, .inr (0, [c0, .ref q, .int (nI n), .int (nI 16), .int (nI d)])), (a, .inl (G.2.1 0, qA (cap + 1) (f))), (q, .inl (G.2.1 0, qA (c1 + 1) (va_cpy f (fun _ => none) 1 1 n)))] := hD
  have hcp : ∀ j : Nat, 1 ≤ j → j ≤ n → va_cpy f (fun _ => none) 1 1 n j = f j := fun j h1 h2 => (pk_cpy_in h1 (by omega)).trans (congrArg f (by omega))
  have hP := hP.sub (ws' := [(h, .inr (0, [c0, .ref q, .int (nI n), .int (nI 16), .int (nI d)])), (q, .inl (G.2.1 0, qA (c1 + 1) (va_cpy f (fun _ => none) 1 1 n)))]) [0, 2] rfl
  have hD := hD.sub (ws' := [(h, .inr (0, [c0, .ref q, .int (nI n), .int (nI 16), .int (nI d)])), (q, .inl (G.2.1 0, qA (c1 + 1) (va_cpy f (fun _ => none) 1 1 n)))]) [0, 2] (by decide) rfl
  refine W.widen (k := 1) (n := 129) (by decide) (by show 0 + (c1 + 1) ≤ 129; omega) ?_
  exact W.vret hx hb hr (fun t ht hW => ⟨⟨(q, va_cpy f (fun _ => none) 1 1 n), rfl, hcp, by rw [ht]; exact hP, hD, by
    rw [ht]
    intro j h1 h2
    obtain ⟨y9, hf9, hy9⟩ := hbx j h1 h2
    exact ⟨y9, (hcp j h1 h2).trans hf9, hbk _ _ hS _ _ hy9⟩⟩, hS.F ht⟩) hS.2.2 dX3_ensureCapacity_31
end
section
/-! insert, deleteMin, heapify -/
set_option maxRecDepth 100000
theorem cnt_snoc {v : Nat → Int32} {n : Nat} {x : Int32} (z : Int32) : cnt (va_up v (n + 1) x) (n + 1) z = cnt v n z + (if x = z then 1 else 0) := by
  show cnt (va_up v (n + 1) x) n z + (if va_up v (n + 1) x (n + 1) = z then 1 else 0) = _
  rw [va_up_self, cnt_congr (v := va_up v (n + 1) x) (w := v) (fun j _ h => va_up_ne _ _ (by omega))]
set_option maxHeartbeats 4000000 in
set_option maxRecDepth 100000 in
/-- insert(y0) -/
theorem m_ins (l : Launch) (G : gG) (H0 : Heap) (h a cap n d : Nat) (up : Bool) (f : Nat → Option Nat) (v : Nat → Int32) (hd : d = 2 ∨ d = 3) (y0 : Nat) (x : Int32) (hn : n ≤ cap) (hn6 : n ≤ 63) (hc1 : 16 ≤ cap) (hc2 : cap ≤ 128) (hy0 : bx G H0 y0 x) (ho0 : ho up d n 1 v) (hbx : bxs G H0 f n v) (hP : va_P G.1 vwCl (wH G h a cap n d (cV G up) f) H0) (hD : va_D (fun _ => True) (wH G h a cap n d (cV G up) f)) : Met l yX2_insert (ws_ yX2_insert cX2_insert 2 none) ({ frames := 4, cells := 1, slots := 129, locals := 89 }) (PcG G [.ref h, .ref y0] H0 (va_A (wH G h a cap n d (cV G up) f) H0.size)) (va_Qv (fun u : Nat × Nat × (Nat → Option Nat) × (Nat → Int32) => 16 ≤ u.2.1 ∧ u.2.1 ≤ 128 ∧ n + 1 ≤ u.2.1 ∧ (∀ z : Int32, cnt u.2.2.2 (n + 1) z = cnt v n z + (if x = z then 1 else 0)) ∧ ho up d (n + 1) 1 u.2.2.2) (fun u t => va_P G.1 vwCl (wH G h u.1 u.2.1 (n + 1) d (cV G up) u.2.2.1) t.heap ∧ va_D (va_A (wH G h a cap n d (cV G up) f) H0.size) (wH G h u.1 u.2.1 (n + 1) d (cV G up) u.2.2.1) ∧ bxs G t.heap u.2.2.1 (n + 1) u.2.2.2) (va_A (wH G h a cap n d (cV G up) f) H0.size)) 1 129 (va_A (wH G h a cap n d (cV G up) f) H0.size) := by
  cases up with
  | true =>
    refine Met.ofW (cc := cX2_insert) (maxL := 2) (ret := none) (by decide) rfl ?_
    intro p e s m args below meth c s₁ B hml hv
    obtain ⟨rfl, rfl, hG⟩ := hv
    have hx := B.exec
    have hb := B.bytes
    have hr := B.returns
    have hts := atoms_spec (ws := ws_ yX2_insert cX2_insert 2 none) B.pre
    have hts : ∀ w ∈ lw_all, w.before _ s = true := fun w h => hts w (List.mem_cons_of_mem _ h)
    have hown : s.vm.findClass RX2 = some m.cls := findClass_of_methodNamed B.named
    have hlocks := B.notSynchronized
    have hK := hG.K
    have hbk : ∀ (H : Heap) (locs : List Loc), va_S (va_A (wH G h a cap n d (cV G true) f) s.heap.size) s.heap H locs → bK G s.heap H := fun H locs h => bK.of hK hP (wH_nI) h.2.1
    have hD := hD.self (sz := s.heap.size)
    generalize hAe : va_A (wH G h a cap n d (cV G true) f) s.heap.size = A at hD hG hbk ⊢
    have hA : ∀ q : Nat, s.heap.size ≤ q → A q := fun q h => by rw [← hAe]; exact Or.inr h
    have hS : va_S A s.heap s.heap [] := va_S.rf
    have hl := lv_entry ([.ref h, .ref y0]) (n := 2) (Nat.le_of_ble_eq_true rfl)
    rw [lg_entry_eq]
    generalize (lg_sl ([.ref h, .ref y0]) ++ List.replicate (2 - (lg_sl ([.ref h, .ref y0])).length) Slot.unset).toArray = ls at hl ⊢
    have hl : lv_has ls 2 [(0, .ref h), (1, .ref y0)] := hl
    refine lv_aload_n hx hb dX2_insert_0 rfl (lv_at hl 1 rfl) ?_
    refine lv_ifnonnull (tgt := 14) hx hb dX2_insert_1 (by decide) ?_
    have tail : ∀ (a cap : Nat) (f : Nat → Option Nat) (H : Heap) (locs : List Loc) (ls : Array Slot), n < cap → 16 ≤ cap → cap ≤ 128 → bxs G s.heap f n v → va_P G.1 vwCl [(h, .inr (0, [.null, .ref a, .int (nI n), .int (nI 16), .int (nI d)])), (a, .inl (G.2.1 0, qA (cap + 1) (f)))] H → va_D A [(h, .inr (0, [.null, .ref a, .int (nI n), .int (nI 16), .int (nI d)])), (a, .inl (G.2.1 0, qA (cap + 1) (f)))] → va_S A s.heap H locs → lv_has ls 2 [(0, .ref h), (1, .ref y0)] → W p l e (headSpec (ws_ yX2_insert cX2_insert 2 none) ({ frames := 4, cells := 1, slots := 129, locals := 89 })).room s m ([.ref h, .ref y0] : List Value).toArray below meth c H locs 1 129 (MQ below (va_Qv (fun u : Nat × Nat × (Nat → Option Nat) × (Nat → Int32) => 16 ≤ u.2.1 ∧ u.2.1 ≤ 128 ∧ n + 1 ≤ u.2.1 ∧ (∀ z : Int32, cnt u.2.2.2 (n + 1) z = cnt v n z + (if x = z then 1 else 0)) ∧ ho true d (n + 1) 1 u.2.2.2) (fun u t => va_P G.1 vwCl (wH G h u.1 u.2.1 (n + 1) d (cV G true) u.2.2.1) t.heap ∧ va_D (A) (wH G h u.1 u.2.1 (n + 1) d (cV G true) u.2.2.1) ∧ bxs G t.heap u.2.2.1 (n + 1) u.2.2.2) (A)) ([.ref h, .ref y0] : List Value).toArray s 1 129 A) (F0 m 58 ls []) := by
      intro a cap f H locs ls hn hc1 hc2 hbx hP hD hS hl
      refine lv_aload_n hx hb dX2_insert_58 rfl (lv_at hl 0 rfl) ?_
      refine va_get (D := G.1) (ci := 0) (v := .ref a) (C := RX3) (T := TX3) (N := 5) hx hb hts in_X3 hown hK hP 0 rfl rfl 1 (by decide) (hts _ q158) (fun x9 h9 => u_same (hts _ q159) x9 h9) rfl dX2_insert_59 ?_
      refine lv_aload_n hx hb dX2_insert_62 rfl (lv_at hl 0 rfl) ?_
      refine lv_dup hx hb dX2_insert_63 rfl ?_
      refine va_get (D := G.1) (ci := 0) (v := .int (nI n)) (C := RX3) (T := TX3) (N := 5) hx hb hts in_X3 hown hK hP 0 rfl rfl 2 (by decide) (hts _ q163) (fun x9 h9 => u_same (hts _ q164) x9 h9) rfl dX2_insert_64 ?_
      refine lv_iconst (v := nI 1) hx hb dX2_insert_67 (by decide) ?_
      refine lv_iadd hx hb dX2_insert_68 ?_
      refine lv_tn (nI (n + 1)) ((nI_add _ _).trans (congrArg nI (by omega))) ?_
      refine lv_dup_x1 hx hb dX2_insert_69 rfl rfl ?_
      refine va_put (D := G.1) (ci := 0) (v := .int (nI (n + 1))) (ty := .int) (C := RX3) (T := TX3) (N := 5) hx hb hts in_X3 tyX3 tyX3_ok nmX3 hown hK hP hD hS 0 rfl rfl 2 (by decide) (hts _ q163) (fun x9 h9 => u_same (hts _ q164) x9 h9) rfl (by decide +kernel) rfl rfl (Nat.le_of_ble_eq_true rfl) dX2_insert_70 (fun H48 locs hP hD hS => ?_)
      have hP : va_P G.1 vwCl [(h, .inr (0, [.null, .ref a, .int (nI (n + 1)), .int (nI 16), .int (nI d)])), (a, .inl (G.2.1 0, qA (cap + 1) (f)))] H48 := hP
      have hD : va_D A [(h, .inr (0, [.null, .ref a, .int (nI (n + 1)), .int (nI 16), .int (nI d)])), (a, .inl (G.2.1 0, qA (cap + 1) (f)))] := hD
      refine lv_aload_n hx hb dX2_insert_73 rfl (lv_at hl 1 rfl) ?_
      refine qst (C := "java/lang/Integer") hx hb hK hP hD hS 1 0 rfl rfl (bx.recv hK (hbk _ _ hS _ _ hy0)) (vb_asgC hG.N.toO) (by omega) (by omega) dX2_insert_74 (fun H49 locs hP hD hS hoq => ?_)
      have hP : va_P G.1 vwCl [(h, .inr (0, [.null, .ref a, .int (nI (n + 1)), .int (nI 16), .int (nI d)])), (a, .inl (G.2.1 0, qA (cap + 1) (va_up (f) (n + 1) (some y0))))] H49 := hP
      have hD : va_D A [(h, .inr (0, [.null, .ref a, .int (nI (n + 1)), .int (nI 16), .int (nI d)])), (a, .inl (G.2.1 0, qA (cap + 1) (va_up (f) (n + 1) (some y0))))] := hD
      refine lv_aload_n hx hb dX2_insert_75 rfl (lv_at hl 0 rfl) ?_
      refine va_get (D := G.1) (ci := 0) (v := .null) (C := RX3) (T := TX3) (N := 5) hx hb hts in_X3 hown hK hP 0 rfl rfl 0 (by decide) (hts _ q154) (fun x9 h9 => u_same (hts _ q155) x9 h9) rfl dX2_insert_76 ?_
      refine lv_ifnonnullN hx hb dX2_insert_79 ?_
      refine lv_aload_n hx hb dX2_insert_82 rfl (lv_at hl 0 rfl) ?_
      refine lv_aload_n hx hb dX2_insert_83 rfl (lv_at hl 0 rfl) ?_
      refine va_get (D := G.1) (ci := 0) (v := .int (nI (n + 1))) (C := RX3) (T := TX3) (N := 5) hx hb hts in_X3 hown hK hP 0 rfl rfl 2 (by decide) (hts _ q163) (fun x9 h9 => u_same (hts _ q164) x9 h9) rfl dX2_insert_84 ?_
      have hPc := hP.sub (ws' := [(h, .inr (0, [.null, .ref a, .int (nI (n + 1)), .int (nI 16), .int (nI d)])), (a, .inl (G.2.1 0, qA (cap + 1) (va_up (f) (n + 1) (some y0))))]) [0, 1] rfl
      have hDc := hD.sub (ws' := [(h, .inr (0, [.null, .ref a, .int (nI (n + 1)), .int (nI 16), .int (nI d)])), (a, .inl (G.2.1 0, qA (cap + 1) (va_up (f) (n + 1) (some y0))))]) [0, 1] (by decide) rfl
      have hFc := va_free (wc := [(h, .inr (0, [.null, .ref a, .int (nI (n + 1)), .int (nI 16), .int (nI d)])), (a, .inl (G.2.1 0, qA (cap + 1) (va_up (f) (n + 1) (some y0))))]) hD hS hA [0, 1] rfl
      refine va_callv (va_runU (As := [.int (nI (n + 1))]) (rest := []) ⟨hx, hb, hml, hown, hts⟩ (m_fup l G _ h a cap (n + 1) d (n + 1) .null (va_up f (n + 1) (some y0)) (va_up v (n + 1) x) hd (by omega) (Nat.le_refl _) (by omega) (by omega) (fuI_start hd ho0) ((hbx.kept (hbk _ _ hS)).snoc (hbk _ _ hS _ _ hy0)) hPc (hDc.weaken (fun _ _ _ _ => trivial))) (va_cwA 1 hts (lw_U (C := "DaryArrayHeap") (owner := "AbstractArrayWeakHeap") (x := ⟨"AbstractArrayHeap", "fixup", "(I)V"⟩) (y := yX3_fixup) q256 q257 q259 q260 q7 q261) rfl rfl rfl hG.N.dUp (by decide +kernel) ⟨Nat.le_of_ble_eq_true rfl, Nat.le_of_ble_eq_true rfl⟩) (PcG.v (va_recv hK hPc (ci := 0) (q0 := 0) (q := (RX3, TX3, 5)) rfl rfl) (hG.sub hS hFc)) rfl rfl hl.1 rfl (lv_room (Nat.le_of_ble_eq_true rfl)) dX2_insert_87 ⟨Nat.le_of_ble_eq_true rfl, Nat.le_of_ble_eq_true rfl⟩) hS (fun q _ h => hFc q h) hFc (fun u t H50 locs ht hvm hw hB hz1 hk1 hS => ?_)
      try dsimp only at hB
      rw [ht] at hB
      obtain ⟨hP, hD1, hb9⟩ := hB
      refine lv_goto (tgt := 101) hx hb dX2_insert_90 (by decide) ?_
      exact W.vret hx hb hr (fun t ht hW => ⟨⟨(a, cap, u.1, u.2), rfl, ⟨hc1, hc2, by show n + 1 ≤ cap; omega, fun z => (hw.1 z).trans (cnt_snoc z), hw.2⟩, by rw [ht]; exact hP, hD1.weaken (fun _ q _ h => hFc q.1 h), by rw [ht]; exact hb9⟩, hS.F ht⟩) hS.2.2 dX2_insert_101
    refine lv_aload_n hx hb dX2_insert_14 rfl (lv_at hl 0 rfl) ?_
    refine va_get (D := G.1) (ci := 0) (v := .int (nI n)) (C := RX3) (T := TX3) (N := 5) hx hb hts in_X3 hown hK hP 0 rfl rfl 2 (by decide) (hts _ q163) (fun x9 h9 => u_same (hts _ q164) x9 h9) rfl dX2_insert_15 ?_
    refine lv_aload_n hx hb dX2_insert_18 rfl (lv_at hl 0 rfl) ?_
    refine va_get (D := G.1) (ci := 0) (v := .ref a) (C := RX3) (T := TX3) (N := 5) hx hb hts in_X3 hown hK hP 0 rfl rfl 1 (by decide) (hts _ q158) (fun x9 h9 => u_same (hts _ q159) x9 h9) rfl dX2_insert_19 ?_
    refine va_alen (v := nI (cap + 1)) hx hb hK hP 1 0 rfl rfl rfl dX2_insert_22 ?_
    refine lv_iconst (v := nI 1) hx hb dX2_insert_23 (by decide) ?_
    refine lv_isub hx hb dX2_insert_24 ?_
    refine lv_tn (nI (cap)) ((pk_sub (by omega)).trans (congrArg nI (by omega))) ?_
    refine bn_ne (tgt := 58) hx hb dX2_insert_25 (by decide) (by omega) (by omega) (fun c1 => ?_) (fun c1 => ?_)
    · refine W.widen (k := 1) (n := 129) (by decide) (by decide) ?_
      exact tail a cap f _ _ _ (by omega) hc1 hc2 hbx hP hD hS hl
    · refine lv_aload_n hx hb dX2_insert_28 rfl (lv_at hl 0 rfl) ?_
      refine va_get (D := G.1) (ci := 0) (v := .ref a) (C := RX3) (T := TX3) (N := 5) hx hb hts in_X3 hown hK hP 0 rfl rfl 1 (by decide) (hts _ q158) (fun x9 h9 => u_same (hts _ q159) x9 h9) rfl dX2_insert_29 ?_
      refine va_alen (v := nI (cap + 1)) hx hb hK hP 1 0 rfl rfl rfl dX2_insert_32 ?_
      refine lv_iconst (v := nI 1) hx hb dX2_insert_33 (by decide) ?_
      refine bn_ne (tgt := 45) hx hb dX2_insert_34 (by decide) (by omega) (by omega) (fun c2 => ?_) (fun c2 => ?_)
      · refine lv_aload_n hx hb dX2_insert_45 rfl (lv_at hl 0 rfl) ?_
        refine lv_iconst (v := nI 2) hx hb dX2_insert_46 (by decide) ?_
        refine lv_aload_n hx hb dX2_insert_47 rfl (lv_at hl 0 rfl) ?_
        refine va_get (D := G.1) (ci := 0) (v := .ref a) (C := RX3) (T := TX3) (N := 5) hx hb hts in_X3 hown hK hP 0 rfl rfl 1 (by decide) (hts _ q158) (fun x9 h9 => u_same (hts _ q159) x9 h9) rfl dX2_insert_48 ?_
        refine va_alen (v := nI (cap + 1)) hx hb hK hP 1 0 rfl rfl rfl dX2_insert_51 ?_
        refine lv_iconst (v := nI 1) hx hb dX2_insert_52 (by decide) ?_
        refine lv_isub hx hb dX2_insert_53 ?_
        refine lv_tn (nI (cap)) ((pk_sub (by omega)).trans (congrArg nI (by omega))) ?_
        refine lv_imul hx hb dX2_insert_54 ?_
        refine lv_tn (nI (2 * cap)) (pk_mul _ _) ?_
        have hPc := hP.sub (ws' := [(h, .inr (0, [.null, .ref a, .int (nI n), .int (nI 16), .int (nI d)])), (a, .inl (G.2.1 0, qA (cap + 1) (f)))]) [0, 1] rfl
        have hDc := hD.sub (ws' := [(h, .inr (0, [.null, .ref a, .int (nI n), .int (nI 16), .int (nI d)])), (a, .inl (G.2.1 0, qA (cap + 1) (f)))]) [0, 1] (by decide) rfl
        have hFc := va_free (wc := [(h, .inr (0, [.null, .ref a, .int (nI n), .int (nI 16), .int (nI d)])), (a, .inl (G.2.1 0, qA (cap + 1) (f)))]) hD hS hA [0, 1] rfl
        refine va_callv (va_runU (As := [.int (nI (2 * cap))]) (rest := []) ⟨hx, hb, hml, hown, hts⟩ (m_ens l G _ h a cap n d (2 * cap) _ f v hn (by omega) (by omega) (by omega) (hbx.kept (hbk _ _ hS)) hPc (hDc.weaken (fun _ _ _ _ => trivial))) (va_cwA 1 hts (lw_U (C := "DaryArrayHeap") (owner := "AbstractArrayWeakHeap") (x := ⟨"AbstractArrayHeap", "ensureCapacity", "(I)V"⟩) (y := yX3_ensureCapacity) q242 q243 q245 q246 q7 q247) rfl rfl rfl hG.N.dEns (by decide +kernel) ⟨Nat.le_of_ble_eq_true rfl, Nat.le_of_ble_eq_true rfl⟩) (PcG.v (va_recv hK hPc (ci := 0) (q0 := 0) (q := (RX3, TX3, 5)) rfl rfl) (hG.sub hS hFc)) rfl rfl hl.1 rfl (lv_room (Nat.le_of_ble_eq_true rfl)) dX2_insert_55 ⟨Nat.le_of_ble_eq_true rfl, Nat.le_of_ble_eq_true rfl⟩) hS (fun q _ h => hFc q h) hFc (fun u t H51 locs ht hvm hw hB hz1 hk1 hS => ?_)
        try dsimp only at hB
        rw [ht] at hB
        obtain ⟨hP, hD1, -⟩ := hB
        exact tail u.1 (2 * cap) u.2 _ _ _ (by omega) (by omega) (by omega) (fun j j1 j2 => by rw [hw j j1 j2]; exact hbx j j1 j2) hP (hD1.weaken (fun _ q _ h => hFc q.1 h)) hS hl
      · exact absurd c2 (by omega)
  | false =>
    refine Met.ofW (cc := cX2_insert) (maxL := 2) (ret := none) (by decide) rfl ?_
    intro p e s m args below meth c s₁ B hml hv
    obtain ⟨rfl, rfl, hG⟩ := hv
    have hx := B.exec
    have hb := B.bytes
    have hr := B.returns
    have hts := atoms_spec (ws := ws_ yX2_insert cX2_insert 2 none) B.pre
    have hts : ∀ w ∈ lw_all, w.before _ s = true := fun w h => hts w (List.mem_cons_of_mem _ h)
    have hown : s.vm.findClass RX2 = some m.cls := findClass_of_methodNamed B.named
    have hlocks := B.notSynchronized
    have hK := hG.K
    have hbk : ∀ (H : Heap) (locs : List Loc), va_S (va_A (wH G h a cap n d (cV G false) f) s.heap.size) s.heap H locs → bK G s.heap H := fun H locs h => bK.of hK hP (wH_nI) h.2.1
    have hD := hD.self (sz := s.heap.size)
    generalize hAe : va_A (wH G h a cap n d (cV G false) f) s.heap.size = A at hD hG hbk ⊢
    have hA : ∀ q : Nat, s.heap.size ≤ q → A q := fun q h => by rw [← hAe]; exact Or.inr h
    have hS : va_S A s.heap s.heap [] := va_S.rf
    have hl := lv_entry ([.ref h, .ref y0]) (n := 2) (Nat.le_of_ble_eq_true rfl)
    rw [lg_entry_eq]
    generalize (lg_sl ([.ref h, .ref y0]) ++ List.replicate (2 - (lg_sl ([.ref h, .ref y0])).length) Slot.unset).toArray = ls at hl ⊢
    have hl : lv_has ls 2 [(0, .ref h), (1, .ref y0)] := hl
    refine lv_aload_n hx hb dX2_insert_0 rfl (lv_at hl 1 rfl) ?_
    refine lv_ifnonnull (tgt := 14) hx hb dX2_insert_1 (by decide) ?_
    have tail : ∀ (a cap : Nat) (f : Nat → Option Nat) (H : Heap) (locs : List Loc) (ls : Array Slot), n < cap → 16 ≤ cap → cap ≤ 128 → bxs G s.heap f n v → va_P G.1 vwCl [(h, .inr (0, [.ref ((G.2.2 1)), .ref a, .int (nI n), .int (nI 16), .int (nI d)])), (a, .inl (G.2.1 0, qA (cap + 1) (f)))] H → va_D A [(h, .inr (0, [.ref ((G.2.2 1)), .ref a, .int (nI n), .int (nI 16), .int (nI d)])), (a, .inl (G.2.1 0, qA (cap + 1) (f)))] → va_S A s.heap H locs → lv_has ls 2 [(0, .ref h), (1, .ref y0)] → W p l e (headSpec (ws_ yX2_insert cX2_insert 2 none) ({ frames := 4, cells := 1, slots := 129, locals := 89 })).room s m ([.ref h, .ref y0] : List Value).toArray below meth c H locs 1 129 (MQ below (va_Qv (fun u : Nat × Nat × (Nat → Option Nat) × (Nat → Int32) => 16 ≤ u.2.1 ∧ u.2.1 ≤ 128 ∧ n + 1 ≤ u.2.1 ∧ (∀ z : Int32, cnt u.2.2.2 (n + 1) z = cnt v n z + (if x = z then 1 else 0)) ∧ ho false d (n + 1) 1 u.2.2.2) (fun u t => va_P G.1 vwCl (wH G h u.1 u.2.1 (n + 1) d (cV G false) u.2.2.1) t.heap ∧ va_D (A) (wH G h u.1 u.2.1 (n + 1) d (cV G false) u.2.2.1) ∧ bxs G t.heap u.2.2.1 (n + 1) u.2.2.2) (A)) ([.ref h, .ref y0] : List Value).toArray s 1 129 A) (F0 m 58 ls []) := by
      intro a cap f H locs ls hn hc1 hc2 hbx hP hD hS hl
      refine lv_aload_n hx hb dX2_insert_58 rfl (lv_at hl 0 rfl) ?_
      refine va_get (D := G.1) (ci := 0) (v := .ref a) (C := RX3) (T := TX3) (N := 5) hx hb hts in_X3 hown hK hP 0 rfl rfl 1 (by decide) (hts _ q158) (fun x9 h9 => u_same (hts _ q159) x9 h9) rfl dX2_insert_59 ?_
      refine lv_aload_n hx hb dX2_insert_62 rfl (lv_at hl 0 rfl) ?_
      refine lv_dup hx hb dX2_insert_63 rfl ?_
      refine va_get (D := G.1) (ci := 0) (v := .int (nI n)) (C := RX3) (T := TX3) (N := 5) hx hb hts in_X3 hown hK hP 0 rfl rfl 2 (by decide) (hts _ q163) (fun x9 h9 => u_same (hts _ q164) x9 h9) rfl dX2_insert_64 ?_
      refine lv_iconst (v := nI 1) hx hb dX2_insert_67 (by decide) ?_
      refine lv_iadd hx hb dX2_insert_68 ?_
      refine lv_tn (nI (n + 1)) ((nI_add _ _).trans (congrArg nI (by omega))) ?_
      refine lv_dup_x1 hx hb dX2_insert_69 rfl rfl ?_
      refine va_put (D := G.1) (ci := 0) (v := .int (nI (n + 1))) (ty := .int) (C := RX3) (T := TX3) (N := 5) hx hb hts in_X3 tyX3 tyX3_ok nmX3 hown hK hP hD hS 0 rfl rfl 2 (by decide) (hts _ q163) (fun x9 h9 => u_same (hts _ q164) x9 h9) rfl (by decide +kernel) rfl rfl (Nat.le_of_ble_eq_true rfl) dX2_insert_70 (fun H52 locs hP hD hS => ?_)
      have hP : va_P G.1 vwCl [(h, .inr (0, [.ref ((G.2.2 1)), .ref a, .int (nI (n + 1)), .int (nI 16), .int (nI d)])), (a, .inl (G.2.1 0, qA (cap + 1) (f)))] H52 := hP
      have hD : va_D A [(h, .inr (0, [.ref ((G.2.2 1)), .ref a, .int (nI (n + 1)), .int (nI 16), .int (nI d)])), (a, .inl (G.2.1 0, qA (cap + 1) (f)))] := hD
      refine lv_aload_n hx hb dX2_insert_73 rfl (lv_at hl 1 rfl) ?_
      refine qst (C := "java/lang/Integer") hx hb hK hP hD hS 1 0 rfl rfl (bx.recv hK (hbk _ _ hS _ _ hy0)) (vb_asgC hG.N.toO) (by omega) (by omega) dX2_insert_74 (fun H53 locs hP hD hS hoq => ?_)
      have hP : va_P G.1 vwCl [(h, .inr (0, [.ref ((G.2.2 1)), .ref a, .int (nI (n + 1)), .int (nI 16), .int (nI d)])), (a, .inl (G.2.1 0, qA (cap + 1) (va_up (f) (n + 1) (some y0))))] H53 := hP
      have hD : va_D A [(h, .inr (0, [.ref ((G.2.2 1)), .ref a, .int (nI (n + 1)), .int (nI 16), .int (nI d)])), (a, .inl (G.2.1 0, qA (cap + 1) (va_up (f) (n + 1) (some y0))))] := hD
      refine lv_aload_n hx hb dX2_insert_75 rfl (lv_at hl 0 rfl) ?_
      refine va_get (D := G.1) (ci := 0) (v := .ref ((G.2.2 1))) (C := RX3) (T := TX3) (N := 5) hx hb hts in_X3 hown hK hP 0 rfl rfl 0 (by decide) (hts _ q154) (fun x9 h9 => u_same (hts _ q155) x9 h9) rfl dX2_insert_76 ?_
      refine lv_ifnonnull (tgt := 93) hx hb dX2_insert_79 (by decide) ?_
      refine lv_aload_n hx hb dX2_insert_93 rfl (lv_at hl 0 rfl) ?_
      refine lv_aload_n hx hb dX2_insert_94 rfl (lv_at hl 0 rfl) ?_
      refine va_get (D := G.1) (ci := 0) (v := .int (nI (n + 1))) (C := RX3) (T := TX3) (N := 5) hx hb hts in_X3 hown hK hP 0 rfl rfl 2 (by decide) (hts _ q163) (fun x9 h9 => u_same (hts _ q164) x9 h9) rfl dX2_insert_95 ?_
      have hPc := hP.sub (ws' := [(h, .inr (0, [.ref ((G.2.2 1)), .ref a, .int (nI (n + 1)), .int (nI 16), .int (nI d)])), (a, .inl (G.2.1 0, qA (cap + 1) (va_up (f) (n + 1) (some y0))))]) [0, 1] rfl
      have hDc := hD.sub (ws' := [(h, .inr (0, [.ref ((G.2.2 1)), .ref a, .int (nI (n + 1)), .int (nI 16), .int (nI d)])), (a, .inl (G.2.1 0, qA (cap + 1) (va_up (f) (n + 1) (some y0))))]) [0, 1] (by decide) rfl
      have hFc := va_free (wc := [(h, .inr (0, [.ref ((G.2.2 1)), .ref a, .int (nI (n + 1)), .int (nI 16), .int (nI d)])), (a, .inl (G.2.1 0, qA (cap + 1) (va_up (f) (n + 1) (some y0))))]) hD hS hA [0, 1] rfl
      refine va_callv (va_runU (As := [.int (nI (n + 1))]) (rest := []) ⟨hx, hb, hml, hown, hts⟩ (m_fupC l G _ h a cap (n + 1) d (n + 1) (va_up f (n + 1) (some y0)) (va_up v (n + 1) x) hd (by omega) (Nat.le_refl _) (by omega) (by omega) (fuI_start hd ho0) ((hbx.kept (hbk _ _ hS)).snoc (hbk _ _ hS _ _ hy0)) hPc (hDc.weaken (fun _ _ _ _ => trivial))) (va_cwA 1 hts (lw_U (C := "DaryArrayHeap") (owner := "AbstractArrayWeakHeap") (x := ⟨"AbstractArrayHeap", "fixupWithComparator", "(I)V"⟩) (y := yX3_fixupWithComparator) q271 q272 q274 q275 q7 q276) rfl rfl rfl hG.N.dUpC (by decide +kernel) ⟨Nat.le_of_ble_eq_true rfl, Nat.le_of_ble_eq_true rfl⟩) (PcG.v (va_recv hK hPc (ci := 0) (q0 := 0) (q := (RX3, TX3, 5)) rfl rfl) (hG.sub hS hFc)) rfl rfl hl.1 rfl (lv_room (Nat.le_of_ble_eq_true rfl)) dX2_insert_98 ⟨Nat.le_of_ble_eq_true rfl, Nat.le_of_ble_eq_true rfl⟩) hS (fun q _ h => hFc q h) hFc (fun u t H54 locs ht hvm hw hB hz1 hk1 hS => ?_)
      try dsimp only at hB
      rw [ht] at hB
      obtain ⟨hP, hD1, hb9⟩ := hB
      exact W.vret hx hb hr (fun t ht hW => ⟨⟨(a, cap, u.1, u.2), rfl, ⟨hc1, hc2, by show n + 1 ≤ cap; omega, fun z => (hw.1 z).trans (cnt_snoc z), hw.2⟩, by rw [ht]; exact hP, hD1.weaken (fun _ q _ h => hFc q.1 h), by rw [ht]; exact hb9⟩, hS.F ht⟩) hS.2.2 dX2_insert_101
    refine lv_aload_n hx hb dX2_insert_14 rfl (lv_at hl 0 rfl) ?_
    refine va_get (D := G.1) (ci := 0) (v := .int (nI n)) (C := RX3) (T := TX3) (N := 5) hx hb hts in_X3 hown hK hP 0 rfl rfl 2 (by decide) (hts _ q163) (fun x9 h9 => u_same (hts _ q164) x9 h9) rfl dX2_insert_15 ?_
    refine lv_aload_n hx hb dX2_insert_18 rfl (lv_at hl 0 rfl) ?_
    refine va_get (D := G.1) (ci := 0) (v := .ref a) (C := RX3) (T := TX3) (N := 5) hx hb hts in_X3 hown hK hP 0 rfl rfl 1 (by decide) (hts _ q158) (fun x9 h9 => u_same (hts _ q159) x9 h9) rfl dX2_insert_19 ?_
    refine va_alen (v := nI (cap + 1)) hx hb hK hP 1 0 rfl rfl rfl dX2_insert_22 ?_
    refine lv_iconst (v := nI 1) hx hb dX2_insert_23 (by decide) ?_
    refine lv_isub hx hb dX2_insert_24 ?_
    refine lv_tn (nI (cap)) ((pk_sub (by omega)).trans (congrArg nI (by omega))) ?_
    refine bn_ne (tgt := 58) hx hb dX2_insert_25 (by decide) (by omega) (by omega) (fun c1 => ?_) (fun c1 => ?_)
    · refine W.widen (k := 1) (n := 129) (by decide) (by decide) ?_
      exact tail a cap f _ _ _ (by omega) hc1 hc2 hbx hP hD hS hl
    · refine lv_aload_n hx hb dX2_insert_28 rfl (lv_at hl 0 rfl) ?_
      refine va_get (D := G.1) (ci := 0) (v := .ref a) (C := RX3) (T := TX3) (N := 5) hx hb hts in_X3 hown hK hP 0 rfl rfl 1 (by decide) (hts _ q158) (fun x9 h9 => u_same (hts _ q159) x9 h9) rfl dX2_insert_29 ?_
      refine va_alen (v := nI (cap + 1)) hx hb hK hP 1 0 rfl rfl rfl dX2_insert_32 ?_
      refine lv_iconst (v := nI 1) hx hb dX2_insert_33 (by decide) ?_
      refine bn_ne (tgt := 45) hx hb dX2_insert_34 (by decide) (by omega) (by omega) (fun c2 => ?_) (fun c2 => ?_)
      · refine lv_aload_n hx hb dX2_insert_45 rfl (lv_at hl 0 rfl) ?_
        refine lv_iconst (v := nI 2) hx hb dX2_insert_46 (by decide) ?_
        refine lv_aload_n hx hb dX2_insert_47 rfl (lv_at hl 0 rfl) ?_
        refine va_get (D := G.1) (ci := 0) (v := .ref a) (C := RX3) (T := TX3) (N := 5) hx hb hts in_X3 hown hK hP 0 rfl rfl 1 (by decide) (hts _ q158) (fun x9 h9 => u_same (hts _ q159) x9 h9) rfl dX2_insert_48 ?_
        refine va_alen (v := nI (cap + 1)) hx hb hK hP 1 0 rfl rfl rfl dX2_insert_51 ?_
        refine lv_iconst (v := nI 1) hx hb dX2_insert_52 (by decide) ?_
        refine lv_isub hx hb dX2_insert_53 ?_
        refine lv_tn (nI (cap)) ((pk_sub (by omega)).trans (congrArg nI (by omega))) ?_
        refine lv_imul hx hb dX2_insert_54 ?_
        refine lv_tn (nI (2 * cap)) (pk_mul _ _) ?_
        have hPc := hP.sub (ws' := [(h, .inr (0, [.ref ((G.2.2 1)), .ref a, .int (nI n), .int (nI 16), .int (nI d)])), (a, .inl (G.2.1 0, qA (cap + 1) (f)))]) [0, 1] rfl
        have hDc := hD.sub (ws' := [(h, .inr (0, [.ref ((G.2.2 1)), .ref a, .int (nI n), .int (nI 16), .int (nI d)])), (a, .inl (G.2.1 0, qA (cap + 1) (f)))]) [0, 1] (by decide) rfl
        have hFc := va_free (wc := [(h, .inr (0, [.ref ((G.2.2 1)), .ref a, .int (nI n), .int (nI 16), .int (nI d)])), (a, .inl (G.2.1 0, qA (cap + 1) (f)))]) hD hS hA [0, 1] rfl
        refine va_callv (va_runU (As := [.int (nI (2 * cap))]) (rest := []) ⟨hx, hb, hml, hown, hts⟩ (m_ens l G _ h a cap n d (2 * cap) _ f v hn (by omega) (by omega) (by omega) (hbx.kept (hbk _ _ hS)) hPc (hDc.weaken (fun _ _ _ _ => trivial))) (va_cwA 1 hts (lw_U (C := "DaryArrayHeap") (owner := "AbstractArrayWeakHeap") (x := ⟨"AbstractArrayHeap", "ensureCapacity", "(I)V"⟩) (y := yX3_ensureCapacity) q242 q243 q245 q246 q7 q247) rfl rfl rfl hG.N.dEns (by decide +kernel) ⟨Nat.le_of_ble_eq_true rfl, Nat.le_of_ble_eq_true rfl⟩) (PcG.v (va_recv hK hPc (ci := 0) (q0 := 0) (q := (RX3, TX3, 5)) rfl rfl) (hG.sub hS hFc)) rfl rfl hl.1 rfl (lv_room (Nat.le_of_ble_eq_true rfl)) dX2_insert_55 ⟨Nat.le_of_ble_eq_true rfl, Nat.le_of_ble_eq_true rfl⟩) hS (fun q _ h => hFc q h) hFc (fun u t H55 locs ht hvm hw hB hz1 hk1 hS => ?_)
        try dsimp only at hB
        rw [ht] at hB
        obtain ⟨hP, hD1, -⟩ := hB
        exact tail u.1 (2 * cap) u.2 _ _ _ (by omega) (by omega) (by omega) (fun j j1 j2 => by rw [hw j j1 j2]; exact hbx j j1 j2) hP (hD1.weaken (fun _ q _ h => hFc q.1 h)) hS hl
      · exact absurd c2 (by omega)
set_option maxHeartbeats 4000000 in
set_option maxRecDepth 100000 in
/-- deleteMin() of a heap that holds something -/
theorem m_del (l : Launch) (G : gG) (H0 : Heap) (h a cap n d : Nat) (up : Bool) (f : Nat → Option Nat) (v : Nat → Int32) (hd : d = 2 ∨ d = 3) (hn : n + 1 ≤ cap) (hc1 : 16 ≤ cap) (hc2 : cap ≤ 128) (ho0 : ho up d (n + 1) 1 v) (hbx : bxs G H0 f (n + 1) v) (hP : va_P G.1 vwCl (wH G h a cap (n + 1) d (cV G up) f) H0) (hD : va_D (fun _ => True) (wH G h a cap (n + 1) d (cV G up) f)) : Met l yX2_deleteMin (ws_ yX2_deleteMin cX2_deleteMin 3 (some (.object "java/lang/Object"))) ({ frames := 4, cells := 1, slots := 129, locals := 91 }) (PcG G [.ref h] H0 (va_A (wH G h a cap (n + 1) d (cV G up) f) H0.size)) (va_Qr (fun u : Nat × Nat × (Nat → Option Nat) × (Nat → Int32) => 16 ≤ u.2.1 ∧ u.2.1 ≤ 128 ∧ n ≤ u.2.1 ∧ (∀ z : Int32, cnt u.2.2.2 n z + (if v 1 = z then 1 else 0) = cnt v (n + 1) z) ∧ ho up d n 1 u.2.2.2) (fun u y t => bx G t.heap y (v 1) ∧ va_P G.1 vwCl (wH G h u.1 u.2.1 n d (cV G up) u.2.2.1) t.heap ∧ va_D (va_A (wH G h a cap (n + 1) d (cV G up) f) H0.size) (wH G h u.1 u.2.1 n d (cV G up) u.2.2.1) ∧ bxs G t.heap u.2.2.1 n u.2.2.2) (va_A (wH G h a cap (n + 1) d (cV G up) f) H0.size)) 1 129 (va_A (wH G h a cap (n + 1) d (cV G up) f) H0.size) := by
  cases up with
  | true =>
    refine Met.ofW (cc := cX2_deleteMin) (maxL := 3) (ret := (some (.object "java/lang/Object"))) (by decide) rfl ?_
    intro p e s m args below meth c s₁ B hml hv
    obtain ⟨rfl, rfl, hG⟩ := hv
    have hx := B.exec
    have hb := B.bytes
    have hr := B.returns
    have hts := atoms_spec (ws := ws_ yX2_deleteMin cX2_deleteMin 3 (some (.object "java/lang/Object"))) B.pre
    have hts : ∀ w ∈ lw_all, w.before _ s = true := fun w h => hts w (List.mem_cons_of_mem _ h)
    have hown : s.vm.findClass RX2 = some m.cls := findClass_of_methodNamed B.named
    have hlocks := B.notSynchronized
    have hK := hG.K
    have hbk : ∀ (H : Heap) (locs : List Loc), va_S (va_A (wH G h a cap (n + 1) d (cV G true) f) s.heap.size) s.heap H locs → bK G s.heap H := fun H locs h => bK.of hK hP (wH_nI) h.2.1
    have hD := hD.self (sz := s.heap.size)
    generalize hAe : va_A (wH G h a cap (n + 1) d (cV G true) f) s.heap.size = A at hD hG hbk ⊢
    have hA : ∀ q : Nat, s.heap.size ≤ q → A q := fun q h => by rw [← hAe]; exact Or.inr h
    have hS : va_S A s.heap s.heap [] := va_S.rf
    have hl := lv_entry ([.ref h]) (n := 3) (Nat.le_of_ble_eq_true rfl)
    rw [lg_entry_eq]
    generalize (lg_sl ([.ref h]) ++ List.replicate (3 - (lg_sl ([.ref h])).length) Slot.unset).toArray = ls at hl ⊢
    have hl : lv_has ls 3 [(0, .ref h)] := hl
    obtain ⟨y1, hf1, hy1⟩ := hbx 1 (Nat.le_refl 1) (by omega)
    have tail : ∀ (f : Nat → Option Nat) (v9 : Nat → Int32) (H : Heap) (locs : List Loc) (ls : Array Slot), (∀ z : Int32, cnt v9 n z + (if v 1 = z then 1 else 0) = cnt v (n + 1) z) → ho true d n 1 v9 → bxs G H f n v9 → va_P G.1 vwCl [(h, .inr (0, [.null, .ref a, .int (nI n), .int (nI 16), .int (nI d)])), (a, .inl (G.2.1 0, qA (cap + 1) (f)))] H → va_D A [(h, .inr (0, [.null, .ref a, .int (nI n), .int (nI 16), .int (nI d)])), (a, .inl (G.2.1 0, qA (cap + 1) (f)))] → va_S A s.heap H locs → lv_has ls 3 [(1, .ref y1), (0, .ref h)] → W p l e (headSpec (ws_ yX2_deleteMin cX2_deleteMin 3 (some (.object "java/lang/Object"))) ({ frames := 4, cells := 1, slots := 129, locals := 91 })).room s m ([.ref h] : List Value).toArray below meth c H locs 0 0 (MQ below (va_Qr (fun u : Nat × Nat × (Nat → Option Nat) × (Nat → Int32) => 16 ≤ u.2.1 ∧ u.2.1 ≤ 128 ∧ n ≤ u.2.1 ∧ (∀ z : Int32, cnt u.2.2.2 n z + (if v 1 = z then 1 else 0) = cnt v (n + 1) z) ∧ ho true d n 1 u.2.2.2) (fun u y t => bx G t.heap y (v 1) ∧ va_P G.1 vwCl (wH G h u.1 u.2.1 n d (cV G true) u.2.2.1) t.heap ∧ va_D (A) (wH G h u.1 u.2.1 n d (cV G true) u.2.2.1) ∧ bxs G t.heap u.2.2.1 n u.2.2.2) (A)) ([.ref h] : List Value).toArray s 1 129 A) (F0 m 100 ls []) := by
      intro f v9 H locs ls hC hO hb9 hP hD hS hl
      refine lv_aload_n hx hb dX2_deleteMin_100 rfl (lv_at hl 1 rfl) ?_
      refine va_get (D := G.1) (ci := 0) (v := .ref a) (C := RX3) (T := TX3) (N := 5) hx hb hts in_X3 hown hK hP 0 rfl rfl 1 (by decide) (hts _ q158) (fun x9 h9 => u_same (hts _ q159) x9 h9) rfl dX2_deleteMin_101 ?_
      refine va_alen (v := nI (cap + 1)) hx hb hK hP 1 0 rfl rfl rfl dX2_deleteMin_104 ?_
      refine lv_iconst (v := nI 1) hx hb dX2_deleteMin_105 (by decide) ?_
      refine lv_isub hx hb dX2_deleteMin_106 ?_
      refine lv_tn (nI (cap)) ((pk_sub (by omega)).trans (congrArg nI (by omega))) ?_
      refine lv_istore_n (lv' := [(2, .int (nI cap)), (1, .ref y1), (0, .ref h)]) hx hb dX2_deleteMin_107 rfl hl (by decide) rfl (fun ls hl => ?_)
      refine lv_iconst (v := nI 2) hx hb dX2_deleteMin_108 (by decide) ?_
      refine lv_aload_n hx hb dX2_deleteMin_109 rfl (lv_at hl 2 rfl) ?_
      refine va_get (D := G.1) (ci := 0) (v := .int (nI 16)) (C := RX3) (T := TX3) (N := 5) hx hb hts in_X3 hown hK hP 0 rfl rfl 3 (by decide) (hts _ q168) (fun x9 h9 => u_same (hts _ q169) x9 h9) rfl dX2_deleteMin_110 ?_
      refine lv_imul hx hb dX2_deleteMin_113 ?_
      refine lv_tn (nI (32)) ((pk_mul _ _).trans (congrArg nI (by omega))) ?_
      refine lv_iload_n hx hb dX2_deleteMin_114 rfl (lv_at hl 0 rfl) ?_
      refine bn_gt (tgt := 135) hx hb dX2_deleteMin_115 (by decide) (by omega) (by omega) (fun c1 => ?_) (fun c1 => ?_)
      · refine lv_aload_n hx hb dX2_deleteMin_135 rfl (lv_at hl 1 rfl) ?_
        refine W.widen (k := 1) (n := 129) (by decide) (by decide) ?_
        exact W.aret (v := .ref y1) hx hb hr (Or.inl ⟨_, rfl⟩) (Or.inr ⟨_, rfl⟩) (fun t ht hW => ⟨⟨(a, cap, f, v9), y1, rfl, ⟨hc1, hc2, by show n ≤ cap; omega, hC, hO⟩, by rw [ht]; exact hbk _ _ hS _ _ hy1, by rw [ht]; exact hP, hD, by rw [ht]; exact hb9⟩, hS.F ht⟩) hS.2.2 dX2_deleteMin_136
      · refine lv_iconst (v := nI 4) hx hb dX2_deleteMin_118 (by decide) ?_
        refine lv_aload_n hx hb dX2_deleteMin_119 rfl (lv_at hl 2 rfl) ?_
        refine va_get (D := G.1) (ci := 0) (v := .int (nI n)) (C := RX3) (T := TX3) (N := 5) hx hb hts in_X3 hown hK hP 0 rfl rfl 2 (by decide) (hts _ q163) (fun x9 h9 => u_same (hts _ q164) x9 h9) rfl dX2_deleteMin_120 ?_
        refine lv_imul hx hb dX2_deleteMin_123 ?_
        refine lv_tn (nI (4 * n)) (pk_mul _ _) ?_
        refine lv_iload_n hx hb dX2_deleteMin_124 rfl (lv_at hl 0 rfl) ?_
        refine bn_ge (tgt := 135) hx hb dX2_deleteMin_125 (by decide) (by omega) (by omega) (fun c2 => ?_) (fun c2 => ?_)
        · refine lv_aload_n hx hb dX2_deleteMin_135 rfl (lv_at hl 1 rfl) ?_
          refine W.widen (k := 1) (n := 129) (by decide) (by decide) ?_
          exact W.aret (v := .ref y1) hx hb hr (Or.inl ⟨_, rfl⟩) (Or.inr ⟨_, rfl⟩) (fun t ht hW => ⟨⟨(a, cap, f, v9), y1, rfl, ⟨hc1, hc2, by show n ≤ cap; omega, hC, hO⟩, by rw [ht]; exact hbk _ _ hS _ _ hy1, by rw [ht]; exact hP, hD, by rw [ht]; exact hb9⟩, hS.F ht⟩) hS.2.2 dX2_deleteMin_136
        · refine lv_aload_n hx hb dX2_deleteMin_128 rfl (lv_at hl 2 rfl) ?_
          refine lv_iload_n hx hb dX2_deleteMin_129 rfl (lv_at hl 0 rfl) ?_
          refine lv_iconst (v := nI 2) hx hb dX2_deleteMin_130 (by decide) ?_
          refine lv_idiv hx hb dX2_deleteMin_131 (nI_ne0 (by omega) (by omega)) ?_
          refine lv_tn (nI (cap / 2)) (pk_div (by omega) (by omega) (by omega)) ?_
          have hPc := hP.sub (ws' := [(h, .inr (0, [.null, .ref a, .int (nI n), .int (nI 16), .int (nI d)])), (a, .inl (G.2.1 0, qA (cap + 1) (f)))]) [0, 1] rfl
          have hDc := hD.sub (ws' := [(h, .inr (0, [.null, .ref a, .int (nI n), .int (nI 16), .int (nI d)])), (a, .inl (G.2.1 0, qA (cap + 1) (f)))]) [0, 1] (by decide) rfl
          have hFc := va_free (wc := [(h, .inr (0, [.null, .ref a, .int (nI n), .int (nI 16), .int (nI d)])), (a, .inl (G.2.1 0, qA (cap + 1) (f)))]) hD hS hA [0, 1] rfl
          refine va_callv (va_runU (As := [.int (nI (cap / 2))]) (rest := []) ⟨hx, hb, hml, hown, hts⟩ (m_ens l G _ h a cap n d (cap / 2) _ f v9 (by omega) (by omega) (by omega) (by omega) hb9 hPc (hDc.weaken (fun _ _ _ _ => trivial))) (va_cwA 1 hts (lw_U (C := "DaryArrayHeap") (owner := "AbstractArrayWeakHeap") (x := ⟨"AbstractArrayHeap", "ensureCapacity", "(I)V"⟩) (y := yX3_ensureCapacity) q242 q243 q245 q246 q7 q247) rfl rfl rfl hG.N.dEns (by decide +kernel) ⟨Nat.le_of_ble_eq_true rfl, Nat.le_of_ble_eq_true rfl⟩) (PcG.v (va_recv hK hPc (ci := 0) (q0 := 0) (q := (RX3, TX3, 5)) rfl rfl) (hG.sub hS hFc)) rfl rfl hl.1 rfl (lv_room (Nat.le_of_ble_eq_true rfl)) dX2_deleteMin_132 ⟨Nat.le_of_ble_eq_true rfl, Nat.le_of_ble_eq_true rfl⟩) hS (fun q _ h => hFc q h) hFc (fun u t H56 locs ht hvm hw hB hz1 hk1 hS => ?_)
          try dsimp only at hB
          rw [ht] at hB
          obtain ⟨hP, hD1, hb8⟩ := hB
          refine lv_aload_n hx hb dX2_deleteMin_135 rfl (lv_at hl 1 rfl) ?_
          refine W.widen (k := 1) (n := 129) (by decide) (by decide) ?_
          exact W.aret (v := .ref y1) hx hb hr (Or.inl ⟨_, rfl⟩) (Or.inr ⟨_, rfl⟩) (fun t ht hW => ⟨⟨(u.1, cap / 2, u.2, v9), y1, rfl, ⟨by show 16 ≤ cap / 2; omega, by show cap / 2 ≤ 128; omega, by show n ≤ cap / 2; omega, hC, hO⟩, by rw [ht]; exact hbk _ _ hS _ _ hy1, by rw [ht]; exact hP, hD1.weaken (fun _ q _ h => hFc q.1 h), by rw [ht]; exact hb8⟩, hS.F ht⟩) hS.2.2 dX2_deleteMin_136
    refine lv_aload_n hx hb dX2_deleteMin_0 rfl (lv_at hl 0 rfl) ?_
    refine va_get (D := G.1) (ci := 0) (v := .int (nI (n + 1))) (C := RX3) (T := TX3) (N := 5) hx hb hts in_X3 hown hK hP 0 rfl rfl 2 (by decide) (hts _ q163) (fun x9 h9 => u_same (hts _ q164) x9 h9) rfl dX2_deleteMin_1 ?_
    refine bz_ne (tgt := 15) hx hb dX2_deleteMin_4 (by decide) (by omega) (fun c0 => ?_) (fun c0 => ?_)
    · refine lv_aload_n hx hb dX2_deleteMin_15 rfl (lv_at hl 0 rfl) ?_
      refine va_get (D := G.1) (ci := 0) (v := .ref a) (C := RX3) (T := TX3) (N := 5) hx hb hts in_X3 hown hK hP 0 rfl rfl 1 (by decide) (hts _ q158) (fun x9 h9 => u_same (hts _ q159) x9 h9) rfl dX2_deleteMin_16 ?_
      refine lv_iconst (v := nI 1) hx hb dX2_deleteMin_19 (by decide) ?_
      refine qld (y := y1) hx hb hK hP 1 0 rfl rfl (by omega) (by omega) (hf1) dX2_deleteMin_20 ?_
      refine lv_astore_n (lv' := [(1, .ref y1), (0, .ref h)]) hx hb dX2_deleteMin_21 rfl hl (by decide) rfl (fun ls hl => ?_)
      refine lv_aload_n hx hb dX2_deleteMin_22 rfl (lv_at hl 1 rfl) ?_
      refine va_get (D := G.1) (ci := 0) (v := .int (nI (n + 1))) (C := RX3) (T := TX3) (N := 5) hx hb hts in_X3 hown hK hP 0 rfl rfl 2 (by decide) (hts _ q163) (fun x9 h9 => u_same (hts _ q164) x9 h9) rfl dX2_deleteMin_23 ?_
      refine lv_iconst (v := nI 1) hx hb dX2_deleteMin_26 (by decide) ?_
      refine bn_ne (tgt := 45) hx hb dX2_deleteMin_27 (by decide) (by omega) (by omega) (fun c1 => ?_) (fun c1 => ?_)
      · obtain ⟨yn, hfn, hyn⟩ := hbx (n + 1) (by omega) (Nat.le_refl _)
        refine lv_aload_n hx hb dX2_deleteMin_45 rfl (lv_at hl 1 rfl) ?_
        refine va_get (D := G.1) (ci := 0) (v := .ref a) (C := RX3) (T := TX3) (N := 5) hx hb hts in_X3 hown hK hP 0 rfl rfl 1 (by decide) (hts _ q158) (fun x9 h9 => u_same (hts _ q159) x9 h9) rfl dX2_deleteMin_46 ?_
        refine lv_iconst (v := nI 1) hx hb dX2_deleteMin_49 (by decide) ?_
        refine lv_aload_n hx hb dX2_deleteMin_50 rfl (lv_at hl 1 rfl) ?_
        refine va_get (D := G.1) (ci := 0) (v := .ref a) (C := RX3) (T := TX3) (N := 5) hx hb hts in_X3 hown hK hP 0 rfl rfl 1 (by decide) (hts _ q158) (fun x9 h9 => u_same (hts _ q159) x9 h9) rfl dX2_deleteMin_51 ?_
        refine lv_aload_n hx hb dX2_deleteMin_54 rfl (lv_at hl 1 rfl) ?_
        refine va_get (D := G.1) (ci := 0) (v := .int (nI (n + 1))) (C := RX3) (T := TX3) (N := 5) hx hb hts in_X3 hown hK hP 0 rfl rfl 2 (by decide) (hts _ q163) (fun x9 h9 => u_same (hts _ q164) x9 h9) rfl dX2_deleteMin_55 ?_
        refine qld (y := yn) hx hb hK hP 1 0 rfl rfl (by omega) (by omega) (hfn) dX2_deleteMin_58 ?_
        refine qst (C := "java/lang/Integer") hx hb hK hP hD hS 1 0 rfl rfl (bx.recv hK (hbk _ _ hS _ _ hyn)) (vb_asgC hG.N.toO) (by omega) (by omega) dX2_deleteMin_59 (fun H59 locs hP hD hS hoq => ?_)
        have hP : va_P G.1 vwCl [(h, .inr (0, [.null, .ref a, .int (nI (n + 1)), .int (nI 16), .int (nI d)])), (a, .inl (G.2.1 0, qA (cap + 1) (va_up (f) (1) (some yn))))] H59 := hP
        have hD : va_D A [(h, .inr (0, [.null, .ref a, .int (nI (n + 1)), .int (nI 16), .int (nI d)])), (a, .inl (G.2.1 0, qA (cap + 1) (va_up (f) (1) (some yn))))] := hD
        refine lv_aload_n hx hb dX2_deleteMin_60 rfl (lv_at hl 1 rfl) ?_
        refine va_get (D := G.1) (ci := 0) (v := .ref a) (C := RX3) (T := TX3) (N := 5) hx hb hts in_X3 hown hK hP 0 rfl rfl 1 (by decide) (hts _ q158) (fun x9 h9 => u_same (hts _ q159) x9 h9) rfl dX2_deleteMin_61 ?_
        refine lv_aload_n hx hb dX2_deleteMin_64 rfl (lv_at hl 1 rfl) ?_
        refine va_get (D := G.1) (ci := 0) (v := .int (nI (n + 1))) (C := RX3) (T := TX3) (N := 5) hx hb hts in_X3 hown hK hP 0 rfl rfl 2 (by decide) (hts _ q163) (fun x9 h9 => u_same (hts _ q164) x9 h9) rfl dX2_deleteMin_65 ?_
        refine lv_null hx hb dX2_deleteMin_68 ?_
        refine qstN hx hb hK hP hD hS 1 0 rfl rfl (by omega) (by omega) dX2_deleteMin_69 (fun H60 locs hP hD hS => ?_)
        have hP : va_P G.1 vwCl [(h, .inr (0, [.null, .ref a, .int (nI (n + 1)), .int (nI 16), .int (nI d)])), (a, .inl (G.2.1 0, qA (cap + 1) (va_up (va_up (f) (1) (some yn)) (n + 1) none)))] H60 := hP
        have hD : va_D A [(h, .inr (0, [.null, .ref a, .int (nI (n + 1)), .int (nI 16), .int (nI d)])), (a, .inl (G.2.1 0, qA (cap + 1) (va_up (va_up (f) (1) (some yn)) (n + 1) none)))] := hD
        refine lv_aload_n hx hb dX2_deleteMin_70 rfl (lv_at hl 1 rfl) ?_
        refine lv_dup hx hb dX2_deleteMin_71 rfl ?_
        refine va_get (D := G.1) (ci := 0) (v := .int (nI (n + 1))) (C := RX3) (T := TX3) (N := 5) hx hb hts in_X3 hown hK hP 0 rfl rfl 2 (by decide) (hts _ q163) (fun x9 h9 => u_same (hts _ q164) x9 h9) rfl dX2_deleteMin_72 ?_
        refine lv_iconst (v := nI 1) hx hb dX2_deleteMin_75 (by decide) ?_
        refine lv_isub hx hb dX2_deleteMin_76 ?_
        refine lv_tn (nI (n)) ((pk_sub (by omega)).trans (congrArg nI (by omega))) ?_
        refine va_put (D := G.1) (ci := 0) (v := .int (nI n)) (ty := .int) (C := RX3) (T := TX3) (N := 5) hx hb hts in_X3 tyX3 tyX3_ok nmX3 hown hK hP hD hS 0 rfl rfl 2 (by decide) (hts _ q163) (fun x9 h9 => u_same (hts _ q164) x9 h9) rfl (by decide +kernel) rfl rfl (Nat.le_of_ble_eq_true rfl) dX2_deleteMin_77 (fun H61 locs hP hD hS => ?_)
        have hP : va_P G.1 vwCl [(h, .inr (0, [.null, .ref a, .int (nI n), .int (nI 16), .int (nI d)])), (a, .inl (G.2.1 0, qA (cap + 1) (va_up (va_up (f) (1) (some yn)) (n + 1) none)))] H61 := hP
        have hD : va_D A [(h, .inr (0, [.null, .ref a, .int (nI n), .int (nI 16), .int (nI d)])), (a, .inl (G.2.1 0, qA (cap + 1) (va_up (va_up (f) (1) (some yn)) (n + 1) none)))] := hD
        refine lv_aload_n hx hb dX2_deleteMin_80 rfl (lv_at hl 1 rfl) ?_
        refine va_get (D := G.1) (ci := 0) (v := .null) (C := RX3) (T := TX3) (N := 5) hx hb hts in_X3 hown hK hP 0 rfl rfl 0 (by decide) (hts _ q154) (fun x9 h9 => u_same (hts _ q155) x9 h9) rfl dX2_deleteMin_81 ?_
        refine lv_ifnonnullN hx hb dX2_deleteMin_84 ?_
        refine lv_aload_n hx hb dX2_deleteMin_87 rfl (lv_at hl 1 rfl) ?_
        refine lv_iconst (v := nI 1) hx hb dX2_deleteMin_88 (by decide) ?_
        have hPc := hP.sub (ws' := [(h, .inr (0, [.null, .ref a, .int (nI n), .int (nI 16), .int (nI d)])), (a, .inl (G.2.1 0, qA (cap + 1) (va_up (va_up (f) (1) (some yn)) (n + 1) none)))]) [0, 1] rfl
        have hDc := hD.sub (ws' := [(h, .inr (0, [.null, .ref a, .int (nI n), .int (nI 16), .int (nI d)])), (a, .inl (G.2.1 0, qA (cap + 1) (va_up (va_up (f) (1) (some yn)) (n + 1) none)))]) [0, 1] (by decide) rfl
        have hFc := va_free (wc := [(h, .inr (0, [.null, .ref a, .int (nI n), .int (nI 16), .int (nI d)])), (a, .inl (G.2.1 0, qA (cap + 1) (va_up (va_up (f) (1) (some yn)) (n + 1) none)))]) hD hS hA [0, 1] rfl
        refine va_callv (va_runU (As := [.int (nI 1)]) (rest := []) ⟨hx, hb, hml, hown, hts⟩ (m_fdn l G _ h a cap n d 1 .null (va_up (va_up f 1 (some yn)) (n + 1) none) (va_up v 1 (v (n + 1))) hd (Nat.le_refl 1) (by omega) (by omega) (by omega) (ho_del hd ho0 _) (fun j j1 j2 => by rw [va_up_ne _ _ (show j ≠ n + 1 by omega)]; exact (((hbx.kept (hbk _ _ hS)).up (hbk _ _ hS _ _ hyn)).le (Nat.le_succ n)) j j1 j2) hPc (hDc.weaken (fun _ _ _ _ => trivial))) (va_cwA 1 hts (lw_U (C := "DaryArrayHeap") (owner := "AbstractArrayWeakHeap") (x := ⟨"AbstractArrayHeap", "fixdown", "(I)V"⟩) (y := yX3_fixdown) q366 q367 q369 q308 q7 q310) rfl rfl rfl hG.N.dDn (by decide +kernel) ⟨Nat.le_of_ble_eq_true rfl, Nat.le_of_ble_eq_true rfl⟩) (PcG.v (va_recv hK hPc (ci := 0) (q0 := 0) (q := (RX3, TX3, 5)) rfl rfl) (hG.sub hS hFc)) rfl rfl hl.1 rfl (lv_room (Nat.le_of_ble_eq_true rfl)) dX2_deleteMin_89 ⟨Nat.le_of_ble_eq_true rfl, Nat.le_of_ble_eq_true rfl⟩) hS (fun q _ h => hFc q h) hFc (fun u t H62 locs ht hvm hw hB hz1 hk1 hS => ?_)
        try dsimp only at hB
        rw [ht] at hB
        obtain ⟨hP, hD1, hb9⟩ := hB
        refine lv_goto (tgt := 100) hx hb dX2_deleteMin_92 (by decide) ?_
        exact tail u.1 u.2 _ _ _ (fun z => by rw [hw.1 z]; exact cnt_del z (by omega)) hw.2 hb9 hP (hD1.weaken (fun _ q _ h => hFc q.1 h)) hS (lv_sub hl [0, 1] rfl)
      · have c1 : n = 0 := by omega
        refine lv_aload_n hx hb dX2_deleteMin_30 rfl (lv_at hl 1 rfl) ?_
        refine va_get (D := G.1) (ci := 0) (v := .ref a) (C := RX3) (T := TX3) (N := 5) hx hb hts in_X3 hown hK hP 0 rfl rfl 1 (by decide) (hts _ q158) (fun x9 h9 => u_same (hts _ q159) x9 h9) rfl dX2_deleteMin_31 ?_
        refine lv_iconst (v := nI 1) hx hb dX2_deleteMin_34 (by decide) ?_
        refine lv_null hx hb dX2_deleteMin_35 ?_
        refine qstN hx hb hK hP hD hS 1 0 rfl rfl (by omega) (by omega) dX2_deleteMin_36 (fun H57 locs hP hD hS => ?_)
        have hP : va_P G.1 vwCl [(h, .inr (0, [.null, .ref a, .int (nI (n + 1)), .int (nI 16), .int (nI d)])), (a, .inl (G.2.1 0, qA (cap + 1) (va_up (f) (1) none)))] H57 := hP
        have hD : va_D A [(h, .inr (0, [.null, .ref a, .int (nI (n + 1)), .int (nI 16), .int (nI d)])), (a, .inl (G.2.1 0, qA (cap + 1) (va_up (f) (1) none)))] := hD
        refine lv_aload_n hx hb dX2_deleteMin_37 rfl (lv_at hl 1 rfl) ?_
        refine lv_iconst (v := nI 0) hx hb dX2_deleteMin_38 (by decide) ?_
        refine lv_tn (nI (n)) (by rw [c1]) ?_
        refine va_put (D := G.1) (ci := 0) (v := .int (nI n)) (ty := .int) (C := RX3) (T := TX3) (N := 5) hx hb hts in_X3 tyX3 tyX3_ok nmX3 hown hK hP hD hS 0 rfl rfl 2 (by decide) (hts _ q163) (fun x9 h9 => u_same (hts _ q164) x9 h9) rfl (by decide +kernel) rfl rfl (Nat.le_of_ble_eq_true rfl) dX2_deleteMin_39 (fun H58 locs hP hD hS => ?_)
        have hP : va_P G.1 vwCl [(h, .inr (0, [.null, .ref a, .int (nI n), .int (nI 16), .int (nI d)])), (a, .inl (G.2.1 0, qA (cap + 1) (va_up (f) (1) none)))] H58 := hP
        have hD : va_D A [(h, .inr (0, [.null, .ref a, .int (nI n), .int (nI 16), .int (nI d)])), (a, .inl (G.2.1 0, qA (cap + 1) (va_up (f) (1) none)))] := hD
        refine lv_goto (tgt := 100) hx hb dX2_deleteMin_42 (by decide) ?_
        exact tail _ v _ _ _ (fun z => by rw [c1]; rfl) (fun i h1 h2 => by omega) (fun j j1 j2 => by omega) hP hD hS (lv_sub hl [0, 1] rfl)
    · exact absurd c0 (by omega)
  | false =>
    refine Met.ofW (cc := cX2_deleteMin) (maxL := 3) (ret := (some (.object "java/lang/Object"))) (by decide) rfl ?_
    intro p e s m args below meth c s₁ B hml hv
    obtain ⟨rfl, rfl, hG⟩ := hv
    have hx := B.exec
    have hb := B.bytes
    have hr := B.returns
    have hts := atoms_spec (ws := ws_ yX2_deleteMin cX2_deleteMin 3 (some (.object "java/lang/Object"))) B.pre
    have hts : ∀ w ∈ lw_all, w.before _ s = true := fun w h => hts w (List.mem_cons_of_mem _ h)
    have hown : s.vm.findClass RX2 = some m.cls := findClass_of_methodNamed B.named
    have hlocks := B.notSynchronized
    have hK := hG.K
    have hbk : ∀ (H : Heap) (locs : List Loc), va_S (va_A (wH G h a cap (n + 1) d (cV G false) f) s.heap.size) s.heap H locs → bK G s.heap H := fun H locs h => bK.of hK hP (wH_nI) h.2.1
    have hD := hD.self (sz := s.heap.size)
    generalize hAe : va_A (wH G h a cap (n + 1) d (cV G false) f) s.heap.size = A at hD hG hbk ⊢
    have hA : ∀ q : Nat, s.heap.size ≤ q → A q := fun q h => by rw [← hAe]; exact Or.inr h
    have hS : va_S A s.heap s.heap [] := va_S.rf
    have hl := lv_entry ([.ref h]) (n := 3) (Nat.le_of_ble_eq_true rfl)
    rw [lg_entry_eq]
    generalize (lg_sl ([.ref h]) ++ List.replicate (3 - (lg_sl ([.ref h])).length) Slot.unset).toArray = ls at hl ⊢
    have hl : lv_has ls 3 [(0, .ref h)] := hl
    obtain ⟨y1, hf1, hy1⟩ := hbx 1 (Nat.le_refl 1) (by omega)
    have tail : ∀ (f : Nat → Option Nat) (v9 : Nat → Int32) (H : Heap) (locs : List Loc) (ls : Array Slot), (∀ z : Int32, cnt v9 n z + (if v 1 = z then 1 else 0) = cnt v (n + 1) z) → ho false d n 1 v9 → bxs G H f n v9 → va_P G.1 vwCl [(h, .inr (0, [.ref ((G.2.2 1)), .ref a, .int (nI n), .int (nI 16), .int (nI d)])), (a, .inl (G.2.1 0, qA (cap + 1) (f)))] H → va_D A [(h, .inr (0, [.ref ((G.2.2 1)), .ref a, .int (nI n), .int (nI 16), .int (nI d)])), (a, .inl (G.2.1 0, qA (cap + 1) (f)))] → va_S A s.heap H locs → lv_has ls 3 [(1, .ref y1), (0, .ref h)] → W p l e (headSpec (ws_ yX2_deleteMin cX2_deleteMin 3 (some (.object "java/lang/Object"))) ({ frames := 4, cells := 1, slots := 129, locals := 91 })).room s m ([.ref h] : List Value).toArray below meth c H locs 0 0 (MQ below (va_Qr (fun u : Nat × Nat × (Nat → Option Nat) × (Nat → Int32) => 16 ≤ u.2.1 ∧ u.2.1 ≤ 128 ∧ n ≤ u.2.1 ∧ (∀ z : Int32, cnt u.2.2.2 n z + (if v 1 = z then 1 else 0) = cnt v (n + 1) z) ∧ ho false d n 1 u.2.2.2) (fun u y t => bx G t.heap y (v 1) ∧ va_P G.1 vwCl (wH G h u.1 u.2.1 n d (cV G false) u.2.2.1) t.heap ∧ va_D (A) (wH G h u.1 u.2.1 n d (cV G false) u.2.2.1) ∧ bxs G t.heap u.2.2.1 n u.2.2.2) (A)) ([.ref h] : List Value).toArray s 1 129 A) (F0 m 100 ls []) := by
      intro f v9 H locs ls hC hO hb9 hP hD hS hl
      refine lv_aload_n hx hb dX2_deleteMin_100 rfl (lv_at hl 1 rfl) ?_
      refine va_get (D := G.1) (ci := 0) (v := .ref a) (C := RX3) (T := TX3) (N := 5) hx hb hts in_X3 hown hK hP 0 rfl rfl 1 (by decide) (hts _ q158) (fun x9 h9 => u_same (hts _ q159) x9 h9) rfl dX2_deleteMin_101 ?_
      refine va_alen (v := nI (cap + 1)) hx hb hK hP 1 0 rfl rfl rfl dX2_deleteMin_104 ?_
      refine lv_iconst (v := nI 1) hx hb dX2_deleteMin_105 (by decide) ?_
      refine lv_isub hx hb dX2_deleteMin_106 ?_
      refine lv_tn (nI (cap)) ((pk_sub (by omega)).trans (congrArg nI (by omega))) ?_
      refine lv_istore_n (lv' := [(2, .int (nI cap)), (1, .ref y1), (0, .ref h)]) hx hb dX2_deleteMin_107 rfl hl (by decide) rfl (fun ls hl => ?_)
      refine lv_iconst (v := nI 2) hx hb dX2_deleteMin_108 (by decide) ?_
      refine lv_aload_n hx hb dX2_deleteMin_109 rfl (lv_at hl 2 rfl) ?_
      refine va_get (D := G.1) (ci := 0) (v := .int (nI 16)) (C := RX3) (T := TX3) (N := 5) hx hb hts in_X3 hown hK hP 0 rfl rfl 3 (by decide) (hts _ q168) (fun x9 h9 => u_same (hts _ q169) x9 h9) rfl dX2_deleteMin_110 ?_
      refine lv_imul hx hb dX2_deleteMin_113 ?_
      refine lv_tn (nI (32)) ((pk_mul _ _).trans (congrArg nI (by omega))) ?_
      refine lv_iload_n hx hb dX2_deleteMin_114 rfl (lv_at hl 0 rfl) ?_
      refine bn_gt (tgt := 135) hx hb dX2_deleteMin_115 (by decide) (by omega) (by omega) (fun c1 => ?_) (fun c1 => ?_)
      · refine lv_aload_n hx hb dX2_deleteMin_135 rfl (lv_at hl 1 rfl) ?_
        refine W.widen (k := 1) (n := 129) (by decide) (by decide) ?_
        exact W.aret (v := .ref y1) hx hb hr (Or.inl ⟨_, rfl⟩) (Or.inr ⟨_, rfl⟩) (fun t ht hW => ⟨⟨(a, cap, f, v9), y1, rfl, ⟨hc1, hc2, by show n ≤ cap; omega, hC, hO⟩, by rw [ht]; exact hbk _ _ hS _ _ hy1, by rw [ht]; exact hP, hD, by rw [ht]; exact hb9⟩, hS.F ht⟩) hS.2.2 dX2_deleteMin_136
      · refine lv_iconst (v := nI 4) hx hb dX2_deleteMin_118 (by decide) ?_
        refine lv_aload_n hx hb dX2_deleteMin_119 rfl (lv_at hl 2 rfl) ?_
        refine va_get (D := G.1) (ci := 0) (v := .int (nI n)) (C := RX3) (T := TX3) (N := 5) hx hb hts in_X3 hown hK hP 0 rfl rfl 2 (by decide) (hts _ q163) (fun x9 h9 => u_same (hts _ q164) x9 h9) rfl dX2_deleteMin_120 ?_
        refine lv_imul hx hb dX2_deleteMin_123 ?_
        refine lv_tn (nI (4 * n)) (pk_mul _ _) ?_
        refine lv_iload_n hx hb dX2_deleteMin_124 rfl (lv_at hl 0 rfl) ?_
        refine bn_ge (tgt := 135) hx hb dX2_deleteMin_125 (by decide) (by omega) (by omega) (fun c2 => ?_) (fun c2 => ?_)
        · refine lv_aload_n hx hb dX2_deleteMin_135 rfl (lv_at hl 1 rfl) ?_
          refine W.widen (k := 1) (n := 129) (by decide) (by decide) ?_
          exact W.aret (v := .ref y1) hx hb hr (Or.inl ⟨_, rfl⟩) (Or.inr ⟨_, rfl⟩) (fun t ht hW => ⟨⟨(a, cap, f, v9), y1, rfl, ⟨hc1, hc2, by show n ≤ cap; omega, hC, hO⟩, by rw [ht]; exact hbk _ _ hS _ _ hy1, by rw [ht]; exact hP, hD, by rw [ht]; exact hb9⟩, hS.F ht⟩) hS.2.2 dX2_deleteMin_136
        · refine lv_aload_n hx hb dX2_deleteMin_128 rfl (lv_at hl 2 rfl) ?_
          refine lv_iload_n hx hb dX2_deleteMin_129 rfl (lv_at hl 0 rfl) ?_
          refine lv_iconst (v := nI 2) hx hb dX2_deleteMin_130 (by decide) ?_
          refine lv_idiv hx hb dX2_deleteMin_131 (nI_ne0 (by omega) (by omega)) ?_
          refine lv_tn (nI (cap / 2)) (pk_div (by omega) (by omega) (by omega)) ?_
          have hPc := hP.sub (ws' := [(h, .inr (0, [.ref ((G.2.2 1)), .ref a, .int (nI n), .int (nI 16), .int (nI d)])), (a, .inl (G.2.1 0, qA (cap + 1) (f)))]) [0, 1] rfl
          have hDc := hD.sub (ws' := [(h, .inr (0, [.ref ((G.2.2 1)), .ref a, .int (nI n), .int (nI 16), .int (nI d)])), (a, .inl (G.2.1 0, qA (cap + 1) (f)))]) [0, 1] (by decide) rfl
          have hFc := va_free (wc := [(h, .inr (0, [.ref ((G.2.2 1)), .ref a, .int (nI n), .int (nI 16), .int (nI d)])), (a, .inl (G.2.1 0, qA (cap + 1) (f)))]) hD hS hA [0, 1] rfl
          refine va_callv (va_runU (As := [.int (nI (cap / 2))]) (rest := []) ⟨hx, hb, hml, hown, hts⟩ (m_ens l G _ h a cap n d (cap / 2) _ f v9 (by omega) (by omega) (by omega) (by omega) hb9 hPc (hDc.weaken (fun _ _ _ _ => trivial))) (va_cwA 1 hts (lw_U (C := "DaryArrayHeap") (owner := "AbstractArrayWeakHeap") (x := ⟨"AbstractArrayHeap", "ensureCapacity", "(I)V"⟩) (y := yX3_ensureCapacity) q242 q243 q245 q246 q7 q247) rfl rfl rfl hG.N.dEns (by decide +kernel) ⟨Nat.le_of_ble_eq_true rfl, Nat.le_of_ble_eq_true rfl⟩) (PcG.v (va_recv hK hPc (ci := 0) (q0 := 0) (q := (RX3, TX3, 5)) rfl rfl) (hG.sub hS hFc)) rfl rfl hl.1 rfl (lv_room (Nat.le_of_ble_eq_true rfl)) dX2_deleteMin_132 ⟨Nat.le_of_ble_eq_true rfl, Nat.le_of_ble_eq_true rfl⟩) hS (fun q _ h => hFc q h) hFc (fun u t H63 locs ht hvm hw hB hz1 hk1 hS => ?_)
          try dsimp only at hB
          rw [ht] at hB
          obtain ⟨hP, hD1, hb8⟩ := hB
          refine lv_aload_n hx hb dX2_deleteMin_135 rfl (lv_at hl 1 rfl) ?_
          refine W.widen (k := 1) (n := 129) (by decide) (by decide) ?_
          exact W.aret (v := .ref y1) hx hb hr (Or.inl ⟨_, rfl⟩) (Or.inr ⟨_, rfl⟩) (fun t ht hW => ⟨⟨(u.1, cap / 2, u.2, v9), y1, rfl, ⟨by show 16 ≤ cap / 2; omega, by show cap / 2 ≤ 128; omega, by show n ≤ cap / 2; omega, hC, hO⟩, by rw [ht]; exact hbk _ _ hS _ _ hy1, by rw [ht]; exact hP, hD1.weaken (fun _ q _ h => hFc q.1 h), by rw [ht]; exact hb8⟩, hS.F ht⟩) hS.2.2 dX2_deleteMin_136
    refine lv_aload_n hx hb dX2_deleteMin_0 rfl (lv_at hl 0 rfl) ?_
    refine va_get (D := G.1) (ci := 0) (v := .int (nI (n + 1))) (C := RX3) (T := TX3) (N := 5) hx hb hts in_X3 hown hK hP 0 rfl rfl 2 (by decide) (hts _ q163) (fun x9 h9 => u_same (hts _ q164) x9 h9) rfl dX2_deleteMin_1 ?_
    refine bz_ne (tgt := 15) hx hb dX2_deleteMin_4 (by decide) (by omega) (fun c0 => ?_) (fun c0 => ?_)
    · refine lv_aload_n hx hb dX2_deleteMin_15 rfl (lv_at hl 0 rfl) ?_
      refine va_get (D := G.1) (ci := 0) (v := .ref a) (C := RX3) (T := TX3) (N := 5) hx hb hts in_X3 hown hK hP 0 rfl rfl 1 (by decide) (hts _ q158) (fun x9 h9 => u_same (hts _ q159) x9 h9) rfl dX2_deleteMin_16 ?_
      refine lv_iconst (v := nI 1) hx hb dX2_deleteMin_19 (by decide) ?_
      refine qld (y := y1) hx hb hK hP 1 0 rfl rfl (by omega) (by omega) (hf1) dX2_deleteMin_20 ?_
      refine lv_astore_n (lv' := [(1, .ref y1), (0, .ref h)]) hx hb dX2_deleteMin_21 rfl hl (by decide) rfl (fun ls hl => ?_)
      refine lv_aload_n hx hb dX2_deleteMin_22 rfl (lv_at hl 1 rfl) ?_
      refine va_get (D := G.1) (ci := 0) (v := .int (nI (n + 1))) (C := RX3) (T := TX3) (N := 5) hx hb hts in_X3 hown hK hP 0 rfl rfl 2 (by decide) (hts _ q163) (fun x9 h9 => u_same (hts _ q164) x9 h9) rfl dX2_deleteMin_23 ?_
      refine lv_iconst (v := nI 1) hx hb dX2_deleteMin_26 (by decide) ?_
      refine bn_ne (tgt := 45) hx hb dX2_deleteMin_27 (by decide) (by omega) (by omega) (fun c1 => ?_) (fun c1 => ?_)
      · obtain ⟨yn, hfn, hyn⟩ := hbx (n + 1) (by omega) (Nat.le_refl _)
        refine lv_aload_n hx hb dX2_deleteMin_45 rfl (lv_at hl 1 rfl) ?_
        refine va_get (D := G.1) (ci := 0) (v := .ref a) (C := RX3) (T := TX3) (N := 5) hx hb hts in_X3 hown hK hP 0 rfl rfl 1 (by decide) (hts _ q158) (fun x9 h9 => u_same (hts _ q159) x9 h9) rfl dX2_deleteMin_46 ?_
        refine lv_iconst (v := nI 1) hx hb dX2_deleteMin_49 (by decide) ?_
        refine lv_aload_n hx hb dX2_deleteMin_50 rfl (lv_at hl 1 rfl) ?_
        refine va_get (D := G.1) (ci := 0) (v := .ref a) (C := RX3) (T := TX3) (N := 5) hx hb hts in_X3 hown hK hP 0 rfl rfl 1 (by decide) (hts _ q158) (fun x9 h9 => u_same (hts _ q159) x9 h9) rfl dX2_deleteMin_51 ?_
        refine lv_aload_n hx hb dX2_deleteMin_54 rfl (lv_at hl 1 rfl) ?_
        refine va_get (D := G.1) (ci := 0) (v := .int (nI (n + 1))) (C := RX3) (T := TX3) (N := 5) hx hb hts in_X3 hown hK hP 0 rfl rfl 2 (by decide) (hts _ q163) (fun x9 h9 => u_same (hts _ q164) x9 h9) rfl dX2_deleteMin_55 ?_
        refine qld (y := yn) hx hb hK hP 1 0 rfl rfl (by omega) (by omega) (hfn) dX2_deleteMin_58 ?_
        refine qst (C := "java/lang/Integer") hx hb hK hP hD hS 1 0 rfl rfl (bx.recv hK (hbk _ _ hS _ _ hyn)) (vb_asgC hG.N.toO) (by omega) (by omega) dX2_deleteMin_59 (fun H66 locs hP hD hS hoq => ?_)
        have hP : va_P G.1 vwCl [(h, .inr (0, [.ref ((G.2.2 1)), .ref a, .int (nI (n + 1)), .int (nI 16), .int (nI d)])), (a, .inl (G.2.1 0, qA (cap + 1) (va_up (f) (1) (some yn))))] H66 := hP
        have hD : va_D A [(h, .inr (0, [.ref ((G.2.2 1)), .ref a, .int (nI (n + 1)), .int (nI 16), .int (nI d)])), (a, .inl (G.2.1 0, qA (cap + 1) (va_up (f) (1) (some yn))))] := hD
        refine lv_aload_n hx hb dX2_deleteMin_60 rfl (lv_at hl 1 rfl) ?_
        refine va_get (D := G.1) (ci := 0) (v := .ref a) (C := RX3) (T := TX3) (N := 5) hx hb hts in_X3 hown hK hP 0 rfl rfl 1 (by decide) (hts _ q158) (fun x9 h9 => u_same (hts _ q159) x9 h9) rfl dX2_deleteMin_61 ?_
        refine lv_aload_n hx hb dX2_deleteMin_64 rfl (lv_at hl 1 rfl) ?_
        refine va_get (D := G.1) (ci := 0) (v := .int (nI (n + 1))) (C := RX3) (T := TX3) (N := 5) hx hb hts in_X3 hown hK hP 0 rfl rfl 2 (by decide) (hts _ q163) (fun x9 h9 => u_same (hts _ q164) x9 h9) rfl dX2_deleteMin_65 ?_
        refine lv_null hx hb dX2_deleteMin_68 ?_
        refine qstN hx hb hK hP hD hS 1 0 rfl rfl (by omega) (by omega) dX2_deleteMin_69 (fun H67 locs hP hD hS => ?_)
        have hP : va_P G.1 vwCl [(h, .inr (0, [.ref ((G.2.2 1)), .ref a, .int (nI (n + 1)), .int (nI 16), .int (nI d)])), (a, .inl (G.2.1 0, qA (cap + 1) (va_up (va_up (f) (1) (some yn)) (n + 1) none)))] H67 := hP
        have hD : va_D A [(h, .inr (0, [.ref ((G.2.2 1)), .ref a, .int (nI (n + 1)), .int (nI 16), .int (nI d)])), (a, .inl (G.2.1 0, qA (cap + 1) (va_up (va_up (f) (1) (some yn)) (n + 1) none)))] := hD
        refine lv_aload_n hx hb dX2_deleteMin_70 rfl (lv_at hl 1 rfl) ?_
        refine lv_dup hx hb dX2_deleteMin_71 rfl ?_
        refine va_get (D := G.1) (ci := 0) (v := .int (nI (n + 1))) (C := RX3) (T := TX3) (N := 5) hx hb hts in_X3 hown hK hP 0 rfl rfl 2 (by decide) (hts _ q163) (fun x9 h9 => u_same (hts _ q164) x9 h9) rfl dX2_deleteMin_72 ?_
        refine lv_iconst (v := nI 1) hx hb dX2_deleteMin_75 (by decide) ?_
        refine lv_isub hx hb dX2_deleteMin_76 ?_
        refine lv_tn (nI (n)) ((pk_sub (by omega)).trans (congrArg nI (by omega))) ?_
        refine va_put (D := G.1) (ci := 0) (v := .int (nI n)) (ty := .int) (C := RX3) (T := TX3) (N := 5) hx hb hts in_X3 tyX3 tyX3_ok nmX3 hown hK hP hD hS 0 rfl rfl 2 (by decide) (hts _ q163) (fun x9 h9 => u_same (hts _ q164) x9 h9) rfl (by decide +kernel) rfl rfl (Nat.le_of_ble_eq_true rfl) dX2_deleteMin_77 (fun H68 locs hP hD hS => ?_)
        have hP : va_P G.1 vwCl [(h, .inr (0, [.ref ((G.2.2 1)), .ref a, .int (nI n), .int (nI 16), .int (nI d)])), (a, .inl (G.2.1 0, qA (cap + 1) (va_up (va_up (f) (1) (some yn)) (n + 1) none)))] H68 := hP
        have hD : va_D A [(h, .inr (0, [.ref ((G.2.2 1)), .ref a, .int (nI n), .int (nI 16), .int (nI d)])), (a, .inl (G.2.1 0, qA (cap + 1) (va_up (va_up (f) (1) (some yn)) (n + 1) none)))] := hD
        refine lv_aload_n hx hb dX2_deleteMin_80 rfl (lv_at hl 1 rfl) ?_
        refine va_get (D := G.1) (ci := 0) (v := .ref ((G.2.2 1))) (C := RX3) (T := TX3) (N := 5) hx hb hts in_X3 hown hK hP 0 rfl rfl 0 (by decide) (hts _ q154) (fun x9 h9 => u_same (hts _ q155) x9 h9) rfl dX2_deleteMin_81 ?_
        refine lv_ifnonnull (tgt := 95) hx hb dX2_deleteMin_84 (by decide) ?_
        refine lv_aload_n hx hb dX2_deleteMin_95 rfl (lv_at hl 1 rfl) ?_
        refine lv_iconst (v := nI 1) hx hb dX2_deleteMin_96 (by decide) ?_
        have hPc := hP.sub (ws' := [(h, .inr (0, [.ref ((G.2.2 1)), .ref a, .int (nI n), .int (nI 16), .int (nI d)])), (a, .inl (G.2.1 0, qA (cap + 1) (va_up (va_up (f) (1) (some yn)) (n + 1) none)))]) [0, 1] rfl
        have hDc := hD.sub (ws' := [(h, .inr (0, [.ref ((G.2.2 1)), .ref a, .int (nI n), .int (nI 16), .int (nI d)])), (a, .inl (G.2.1 0, qA (cap + 1) (va_up (va_up (f) (1) (some yn)) (n + 1) none)))]) [0, 1] (by decide) rfl
        have hFc := va_free (wc := [(h, .inr (0, [.ref ((G.2.2 1)), .ref a, .int (nI n), .int (nI 16), .int (nI d)])), (a, .inl (G.2.1 0, qA (cap + 1) (va_up (va_up (f) (1) (some yn)) (n + 1) none)))]) hD hS hA [0, 1] rfl
        refine va_callv (va_runU (As := [.int (nI 1)]) (rest := []) ⟨hx, hb, hml, hown, hts⟩ (m_fdnC l G _ h a cap n d 1 (va_up (va_up f 1 (some yn)) (n + 1) none) (va_up v 1 (v (n + 1))) hd (Nat.le_refl 1) (by omega) (by omega) (by omega) (ho_del hd ho0 _) (fun j j1 j2 => by rw [va_up_ne _ _ (show j ≠ n + 1 by omega)]; exact (((hbx.kept (hbk _ _ hS)).up (hbk _ _ hS _ _ hyn)).le (Nat.le_succ n)) j j1 j2) hPc (hDc.weaken (fun _ _ _ _ => trivial))) (va_cwA 1 hts (lw_U (C := "DaryArrayHeap") (owner := "AbstractArrayWeakHeap") (x := ⟨"AbstractArrayHeap", "fixdownWithComparator", "(I)V"⟩) (y := yX3_fixdownWithComparator) q370 q371 q373 q316 q7 q318) rfl rfl rfl hG.N.dDnC (by decide +kernel) ⟨Nat.le_of_ble_eq_true rfl, Nat.le_of_ble_eq_true rfl⟩) (PcG.v (va_recv hK hPc (ci := 0) (q0 := 0) (q := (RX3, TX3, 5)) rfl rfl) (hG.sub hS hFc)) rfl rfl hl.1 rfl (lv_room (Nat.le_of_ble_eq_true rfl)) dX2_deleteMin_97 ⟨Nat.le_of_ble_eq_true rfl, Nat.le_of_ble_eq_true rfl⟩) hS (fun q _ h => hFc q h) hFc (fun u t H69 locs ht hvm hw hB hz1 hk1 hS => ?_)
        try dsimp only at hB
        rw [ht] at hB
        obtain ⟨hP, hD1, hb9⟩ := hB
        exact tail u.1 u.2 _ _ _ (fun z => by rw [hw.1 z]; exact cnt_del z (by omega)) hw.2 hb9 hP (hD1.weaken (fun _ q _ h => hFc q.1 h)) hS (lv_sub hl [0, 1] rfl)
      · have c1 : n = 0 := by omega
        refine lv_aload_n hx hb dX2_deleteMin_30 rfl (lv_at hl 1 rfl) ?_
        refine va_get (D := G.1) (ci := 0) (v := .ref a) (C := RX3) (T := TX3) (N := 5) hx hb hts in_X3 hown hK hP 0 rfl rfl 1 (by decide) (hts _ q158) (fun x9 h9 => u_same (hts _ q159) x9 h9) rfl dX2_deleteMin_31 ?_
        refine lv_iconst (v := nI 1) hx hb dX2_deleteMin_34 (by decide) ?_
        refine lv_null hx hb dX2_deleteMin_35 ?_
        refine qstN hx hb hK hP hD hS 1 0 rfl rfl (by omega) (by omega) dX2_deleteMin_36 (fun H64 locs hP hD hS => ?_)
        have hP : va_P G.1 vwCl [(h, .inr (0, [.ref ((G.2.2 1)), .ref a, .int (nI (n + 1)), .int (nI 16), .int (nI d)])), (a, .inl (G.2.1 0, qA (cap + 1) (va_up (f) (1) none)))] H64 := hP
        have hD : va_D A [(h, .inr (0, [.ref ((G.2.2 1)), .ref a, .int (nI (n + 1)), .int (nI 16), .int (nI d)])), (a, .inl (G.2.1 0, qA (cap + 1) (va_up (f) (1) none)))] := hD
        refine lv_aload_n hx hb dX2_deleteMin_37 rfl (lv_at hl 1 rfl) ?_
        refine lv_iconst (v := nI 0) hx hb dX2_deleteMin_38 (by decide) ?_
        refine lv_tn (nI (n)) (by rw [c1]) ?_
        refine va_put (D := G.1) (ci := 0) (v := .int (nI n)) (ty := .int) (C := RX3) (T := TX3) (N := 5) hx hb hts in_X3 tyX3 tyX3_ok nmX3 hown hK hP hD hS 0 rfl rfl 2 (by decide) (hts _ q163) (fun x9 h9 => u_same (hts _ q164) x9 h9) rfl (by decide +kernel) rfl rfl (Nat.le_of_ble_eq_true rfl) dX2_deleteMin_39 (fun H65 locs hP hD hS => ?_)
        have hP : va_P G.1 vwCl [(h, .inr (0, [.ref ((G.2.2 1)), .ref a, .int (nI n), .int (nI 16), .int (nI d)])), (a, .inl (G.2.1 0, qA (cap + 1) (va_up (f) (1) none)))] H65 := hP
        have hD : va_D A [(h, .inr (0, [.ref ((G.2.2 1)), .ref a, .int (nI n), .int (nI 16), .int (nI d)])), (a, .inl (G.2.1 0, qA (cap + 1) (va_up (f) (1) none)))] := hD
        refine lv_goto (tgt := 100) hx hb dX2_deleteMin_42 (by decide) ?_
        exact tail _ v _ _ _ (fun z => by rw [c1]; rfl) (fun i h1 h2 => by omega) (fun j j1 j2 => by omega) hP hD hS (lv_sub hl [0, 1] rfl)
    · exact absurd c0 (by omega)
set_option maxHeartbeats 4000000 in
set_option maxRecDepth 100000 in
/-- heapify: a new heap of the four values in the row -/
theorem m_hpf (l : Launch) (G : gG) (H0 : Heap) (d ro : Nat) (g : Nat → Option Nat) (v : Nat → Int32) (hd : d = 2 ∨ d = 3) (hg : ∀ j : Nat, j < 4 → ∃ y : Nat, g j = some y ∧ bx G H0 y (v j)) (hP : va_P G.1 vwCl [(ro, .inl (G.2.1 2, qA (4) (g)))] H0) (hD : va_D (fun _ => True) [(ro, .inl (G.2.1 2, qA (4) (g)))]) : Met l yX3_heapify (ws_ yX3_heapify cX3_heapify 4 (some (.object "DaryArrayHeap"))) ({ frames := 5, cells := 2, slots := 22, locals := 110 }) (PcG G [.int (nI d), .ref ro] H0 (va_A [(ro, .inl (G.2.1 2, qA (4) (g)))] H0.size)) (va_Qr (fun u : Nat × (Nat → Option Nat) × (Nat → Int32) => (∀ z : Int32, cnt u.2.2 4 z = cnt (fun j => v (j - 1)) 4 z) ∧ ho true d 4 1 u.2.2) (fun u h t => va_P G.1 vwCl (wH G h u.1 16 4 d (cV G true) u.2.1) t.heap ∧ va_D (va_A [(ro, .inl (G.2.1 2, qA (4) (g)))] H0.size) (wH G h u.1 16 4 d (cV G true) u.2.1) ∧ bxs G t.heap u.2.1 4 u.2.2) (va_A [(ro, .inl (G.2.1 2, qA (4) (g)))] H0.size)) 2 22 (va_A [(ro, .inl (G.2.1 2, qA (4) (g)))] H0.size) := by
  refine Met.ofW (cc := cX3_heapify) (maxL := 4) (ret := (some (.object "DaryArrayHeap"))) (by decide) rfl ?_
  intro p e s m args below meth c s₁ B hml hv
  obtain ⟨rfl, rfl, hG⟩ := hv
  have hx := B.exec
  have hb := B.bytes
  have hr := B.returns
  have hts := atoms_spec (ws := ws_ yX3_heapify cX3_heapify 4 (some (.object "DaryArrayHeap"))) B.pre
  have hts : ∀ w ∈ lw_all, w.before _ s = true := fun w h => hts w (List.mem_cons_of_mem _ h)
  have hown : s.vm.findClass RX3 = some m.cls := findClass_of_methodNamed B.named
  have hlocks := B.notSynchronized
  have hK := hG.K
  have hbk : ∀ (H : Heap) (locs : List Loc), va_S (va_A [(ro, .inl (G.2.1 2, qA (4) (g)))] s.heap.size) s.heap H locs → bK G s.heap H := fun H locs h => bK.of hK hP (nI_a 2 (by decide) nI_nil) h.2.1
  have hD := hD.self (sz := s.heap.size)
  generalize hAe : va_A [(ro, .inl (G.2.1 2, qA (4) (g)))] s.heap.size = A at hD hG hbk ⊢
  have hA : ∀ q : Nat, s.heap.size ≤ q → A q := fun q h => by rw [← hAe]; exact Or.inr h
  have hS : va_S A s.heap s.heap [] := va_S.rf
  have hl := lv_entry ([.int (nI d), .ref ro]) (n := 4) (Nat.le_of_ble_eq_true rfl)
  rw [lg_entry_eq]
  generalize (lg_sl ([.int (nI d), .ref ro]) ++ List.replicate (4 - (lg_sl ([.int (nI d), .ref ro])).length) Slot.unset).toArray = ls at hl ⊢
  have hl : lv_has ls 4 [(0, .int (nI d)), (1, .ref ro)] := hl
  refine lv_iload_n hx hb dX3_heapify_0 rfl (lv_at hl 0 rfl) ?_
  refine lv_iconst (v := nI 2) hx hb dX3_heapify_1 (by decide) ?_
  refine bn_ge (tgt := 15) hx hb dX3_heapify_2 (by decide) (by omega) (by omega) (fun c1 => ?_) (fun c1 => ?_)
  · refine lv_aload_n hx hb dX3_heapify_15 rfl (lv_at hl 1 rfl) ?_
    refine lv_ifnonnull (tgt := 29) hx hb dX3_heapify_16 (by decide) ?_
    refine lv_aload_n hx hb dX3_heapify_29 rfl (lv_at hl 1 rfl) ?_
    refine va_alen (v := nI (4)) hx hb hK hP 0 2 rfl rfl rfl dX3_heapify_30 ?_
    refine bz_ne (tgt := 43) hx hb dX3_heapify_31 (by decide) (by omega) (fun c2 => ?_) (fun c2 => ?_)
    · refine va_new (ci := 0) (fs := [.null, .null, .int (nI 0), .int (nI 0), .int (nI 0)]) (C := RX3) (T := TX3) (N := 5) hx hb hts in_X3 tyX3 tyX3_ok hown (hts _ q302) (hts _ q36) (hts _ q7) hK hP hD hS hA rfl (fun j hj => by rcases (show j = 0 ∨ j = 1 ∨ j = 2 ∨ j = 3 ∨ j = 4 by omega) with rfl | rfl | rfl | rfl | rfl <;> rfl) (Nat.le_of_ble_eq_true rfl) (Nat.le_of_ble_eq_true rfl) dX3_heapify_43 (fun h H70 hP hD hS => ?_)
      have hP : va_P G.1 vwCl [(ro, .inl (G.2.1 2, qA (4) (g))), (h, .inr (0, [.null, .null, .int (nI 0), .int (nI 0), .int (nI 0)]))] H70 := hP
      have hD : va_D A [(ro, .inl (G.2.1 2, qA (4) (g))), (h, .inr (0, [.null, .null, .int (nI 0), .int (nI 0), .int (nI 0)]))] := hD
      refine W.widen (k := 1) (n := 5) (by decide) (by decide) ?_
      refine lv_dup hx hb dX3_heapify_46 rfl ?_
      refine lv_iload_n hx hb dX3_heapify_47 rfl (lv_at hl 0 rfl) ?_
      refine lv_aload_n hx hb dX3_heapify_48 rfl (lv_at hl 1 rfl) ?_
      refine va_alen (v := nI (4)) hx hb hK hP 0 2 rfl rfl rfl dX3_heapify_49 ?_
      have hPc := hP.sub (ws' := [(h, .inr (0, [.null, .null, .int (nI 0), .int (nI 0), .int (nI 0)]))]) [1] rfl
      have hDc := hD.sub (ws' := [(h, .inr (0, [.null, .null, .int (nI 0), .int (nI 0), .int (nI 0)]))]) [1] (by decide) rfl
      have hFc := va_free (wc := [(h, .inr (0, [.null, .null, .int (nI 0), .int (nI 0), .int (nI 0)]))]) hD hS hA [1] rfl
      refine va_callv (va_runI (As := [.int (nI d), .int (nI 4)]) (rest := [.ref h]) ⟨hx, hb, hml, hown, hts⟩ (m_dI4 l G _ h d 4 (by decide) hd hPc (hDc.weaken (fun _ _ _ _ => trivial))) (cwI 2 hts (lw_meth q306) rfl rfl rfl (hts _ q7) (hts _ q304) (hts _ q305) rfl (by decide +kernel) ⟨Nat.le_of_ble_eq_true rfl, Nat.le_of_ble_eq_true rfl⟩) (PcG.s (hG.sub hS hFc)) rfl rfl hl.1 rfl (lv_room (Nat.le_of_ble_eq_true rfl)) dX3_heapify_50 ⟨Nat.le_of_ble_eq_true rfl, Nat.le_of_ble_eq_true rfl⟩) hS (fun q _ h => hFc q h) hFc (fun u t H71 locs ht hvm hw hB hz1 hk1 hS => ?_)
      try dsimp only at hB
      rw [ht] at hB
      obtain ⟨hP1, hD1⟩ := hB
      obtain ⟨hP, hD⟩ := va_join (wr := [(ro, .inl (G.2.1 2, qA (4) (g)))]) (w1 := [(h, .inr (0, [.null, .ref u, .int (nI 0), .int (nI 16), .int (nI d)])), (u, .inl (G.2.1 0, qA (16 + 1) ((fun _ => none))))]) hP hD [1] [0] rfl rfl (by decide) (by decide) hk1 hFc hP1 hD1
      have hP : va_P G.1 vwCl [(ro, .inl (G.2.1 2, qA (4) (g))), (h, .inr (0, [.null, .ref u, .int (nI 0), .int (nI 16), .int (nI d)])), (u, .inl (G.2.1 0, qA (16 + 1) ((fun _ => none))))] H71 := hP
      have hD : va_D A [(ro, .inl (G.2.1 2, qA (4) (g))), (h, .inr (0, [.null, .ref u, .int (nI 0), .int (nI 16), .int (nI d)])), (u, .inl (G.2.1 0, qA (16 + 1) ((fun _ => none))))] := hD
      refine W.widen (k := 2) (n := 22) (by decide) (by decide) ?_
      refine lv_astore_n (lv' := [(2, .ref h), (0, .int (nI d)), (1, .ref ro)]) hx hb dX3_heapify_53 rfl hl (by decide) rfl (fun ls hl => ?_)
      refine lv_aload_n hx hb dX3_heapify_54 rfl (lv_at hl 2 rfl) ?_
      refine lv_iconst (v := nI 0) hx hb dX3_heapify_55 (by decide) ?_
      refine lv_aload_n hx hb dX3_heapify_56 rfl (lv_at hl 0 rfl) ?_
      refine va_get (D := G.1) (ci := 0) (v := .ref u) (C := RX3) (T := TX3) (N := 5) hx hb hts in_X3 hown hK hP 1 rfl rfl 1 (by decide) (hts _ q160) (fun x9 h9 => u_same (hts _ q161) x9 h9) rfl dX3_heapify_57 ?_
      refine lv_iconst (v := nI 1) hx hb dX3_heapify_60 (by decide) ?_
      refine lv_aload_n hx hb dX3_heapify_61 rfl (lv_at hl 2 rfl) ?_
      refine va_alen (v := nI (4)) hx hb hK hP 0 2 rfl rfl rfl dX3_heapify_62 ?_
      refine va_copyq (C := "java/lang/Integer") hx hb (by rw [hml]; exact hl.1.symm) hown (hts _ q253) (hts _ q255) (hts _ q254) (hts _ q18) hK hP hD hS 0 2 2 0 rfl rfl rfl rfl (nI_pos (by decide)) (nI_pos (by decide)) (nI_pos (by decide)) (by rw [nI_clamp (by decide), nI_clamp (by decide)]; decide) (by rw [nI_clamp (by decide), nI_clamp (by decide)]; decide) (fun i hi y hy => by
        rw [nI_clamp (by decide)] at hy
        rw [nI_clamp (by decide)] at hi
        obtain ⟨y9, hf9, hy9⟩ := hg (0 + i) (by omega)
        cases hf9.symm.trans hy
        exact bx.recv hK (hbk _ _ hS _ _ hy9)) (vb_asgC hG.N.toO) (Nat.le_of_ble_eq_true rfl) (Nat.le_of_ble_eq_true rfl) dX3_heapify_63 (fun H72 locs hP hD hS => ?_)
      rw [nI_clamp (show 0 < 2 ^ 31 by decide), nI_clamp (show 1 < 2 ^ 31 by decide), nI_clamp (show 4 < 2 ^ 31 by decide)] at hP hD
      have hP : va_P G.1 vwCl [(ro, .inl (G.2.1 2, qA (4) (g))), (h, .inr (0, [.null, .ref u, .int (nI 0), .int (nI 16), .int (nI d)])), (u, .inl (G.2.1 0, qA (16 + 1) (va_cpy g (fun _ => none) 0 1 4)))] H72 := hP
      have hD : va_D A [(ro, .inl (G.2.1 2, qA (4) (g))), (h, .inr (0, [.null, .ref u, .int (nI 0), .int (nI 16), .int (nI d)])), (u, .inl (G.2.1 0, qA (16 + 1) (va_cpy g (fun _ => none) 0 1 4)))] := hD
      refine lv_aload_n hx hb dX3_heapify_66 rfl (lv_at hl 0 rfl) ?_
      refine lv_aload_n hx hb dX3_heapify_67 rfl (lv_at hl 2 rfl) ?_
      refine va_alen (v := nI (4)) hx hb hK hP 0 2 rfl rfl rfl dX3_heapify_68 ?_
      refine va_put (D := G.1) (ci := 0) (v := .int (nI 4)) (ty := .int) (C := RX3) (T := TX3) (N := 5) hx hb hts in_X3 tyX3 tyX3_ok nmX3 hown hK hP hD hS 1 rfl rfl 2 (by decide) (hts _ q165) (fun x9 h9 => u_same (hts _ q166) x9 h9) rfl (by decide +kernel) rfl rfl (Nat.le_of_ble_eq_true rfl) dX3_heapify_69 (fun H73 locs hP hD hS => ?_)
      have hP : va_P G.1 vwCl [(ro, .inl (G.2.1 2, qA (4) (g))), (h, .inr (0, [.null, .ref u, .int (nI 4), .int (nI 16), .int (nI d)])), (u, .inl (G.2.1 0, qA (16 + 1) (va_cpy g (fun _ => none) 0 1 4)))] H73 := hP
      have hD : va_D A [(ro, .inl (G.2.1 2, qA (4) (g))), (h, .inr (0, [.null, .ref u, .int (nI 4), .int (nI 16), .int (nI d)])), (u, .inl (G.2.1 0, qA (16 + 1) (va_cpy g (fun _ => none) 0 1 4)))] := hD
      have hbs : bxs G s.heap (va_cpy g (fun _ => none) 0 1 4) 4 (fun j => v (j - 1)) := fun j j1 j2 => by
        obtain ⟨y9, hf9, hy9⟩ := hg (j - 1) (by omega)
        exact ⟨y9, (pk_cpy_in j1 (by omega)).trans ((congrArg g (by omega)).trans hf9), hy9⟩
      have hbs := hbs.kept (hbk _ _ hS)
      have hE : 4 / d + 1 ≤ 4 ∧ ∀ w : Nat → Int32, ho true d 4 (4 / d + 1) w := by
        rcases hd with rfl | rfl
        · exact ⟨by decide, fun w i h1 h2 h3 => absurd h3 (by unfold pr; omega)⟩
        · exact ⟨by decide, fun w i h1 h2 h3 => absurd h3 (by unfold pr; omega)⟩
      refine lv_aload_n hx hb dX3_heapify_72 rfl (lv_at hl 2 rfl) ?_
      refine va_alen (v := nI (4)) hx hb hK hP 0 2 rfl rfl rfl dX3_heapify_73 ?_
      refine lv_iload_n hx hb dX3_heapify_74 rfl (lv_at hl 1 rfl) ?_
      refine lv_idiv hx hb dX3_heapify_75 (nI_ne0 (by omega) (by omega)) ?_
      refine lv_tn (nI (4 / d)) (pk_div (by omega) (by omega) (by omega)) ?_
      refine lv_istore_n (lv' := [(3, .int (nI (4 / d))), (2, .ref h), (0, .int (nI d)), (1, .ref ro)]) hx hb dX3_heapify_76 rfl hl (by decide) rfl (fun ls hl => ?_)
      have hP := hP.sub (ws' := [(h, .inr (0, [.null, .ref u, .int (nI 4), .int (nI 16), .int (nI d)])), (u, .inl (G.2.1 0, qA (16 + 1) (va_cpy g (fun _ => none) 0 1 4)))]) [1, 2] rfl
      have hD := hD.sub (ws' := [(h, .inr (0, [.null, .ref u, .int (nI 4), .int (nI 16), .int (nI d)])), (u, .inl (G.2.1 0, qA (16 + 1) (va_cpy g (fun _ => none) 0 1 4)))]) [1, 2] (by decide) rfl
      have loop : ∀ (i : Nat) (f : Nat → Option Nat) (x : Nat → Int32) (H : Heap) (locs : List Loc) (ls : Array Slot), i ≤ 3 → ho true d 4 (i + 1) x → (∀ z : Int32, cnt x 4 z = cnt (fun j => v (j - 1)) 4 z) → bxs G H f 4 x → va_P G.1 vwCl [(h, .inr (0, [.null, .ref u, .int (nI 4), .int (nI 16), .int (nI d)])), (u, .inl (G.2.1 0, qA (16 + 1) (f)))] H → va_D A [(h, .inr (0, [.null, .ref u, .int (nI 4), .int (nI 16), .int (nI d)])), (u, .inl (G.2.1 0, qA (16 + 1) (f)))] → va_S A s.heap H locs → lv_has ls 4 [(3, .int (nI i)), (2, .ref h)] → W p l e (headSpec (ws_ yX3_heapify cX3_heapify 4 (some (.object "DaryArrayHeap"))) ({ frames := 5, cells := 2, slots := 22, locals := 110 })).room s m ([.int (nI d), .ref ro] : List Value).toArray below meth c H locs 2 22 (MQ below (va_Qr (fun u : Nat × (Nat → Option Nat) × (Nat → Int32) => (∀ z : Int32, cnt u.2.2 4 z = cnt (fun j => v (j - 1)) 4 z) ∧ ho true d 4 1 u.2.2) (fun u h t => va_P G.1 vwCl (wH G h u.1 16 4 d (cV G true) u.2.1) t.heap ∧ va_D (A) (wH G h u.1 16 4 d (cV G true) u.2.1) ∧ bxs G t.heap u.2.1 4 u.2.2) (A)) ([.int (nI d), .ref ro] : List Value).toArray s 2 22 A) (F0 m 77 ls []) := by
        intro i
        induction i with
        | zero =>
          intro f x H locs ls hi hO hC hbs hP hD hS hl
          refine lv_iload_n hx hb dX3_heapify_77 rfl (lv_at hl 0 rfl) ?_
          refine bz_le (tgt := 92) hx hb dX3_heapify_78 (by decide) (by omega) (fun c3 => ?_) (fun c3 => ?_)
          · refine lv_aload_n hx hb dX3_heapify_92 rfl (lv_at hl 1 rfl) ?_
            exact W.aret (v := .ref h) hx hb hr (Or.inl ⟨_, rfl⟩) (Or.inr ⟨_, rfl⟩) (fun t ht hW => ⟨⟨(u, f, x), h, rfl, ⟨hC, hO⟩, by rw [ht]; exact hP, hD, by rw [ht]; exact hbs⟩, hS.F ht⟩) hS.2.2 dX3_heapify_93
          · exact absurd c3 (by omega)
        | succ i ih =>
          intro f x H locs ls hi hO hC hbs hP hD hS hl
          refine lv_iload_n hx hb dX3_heapify_77 rfl (lv_at hl 0 rfl) ?_
          refine bz_le (tgt := 92) hx hb dX3_heapify_78 (by decide) (by omega) (fun c3 => ?_) (fun c3 => ?_)
          · exact absurd c3 (by omega)
          · refine lv_aload_n hx hb dX3_heapify_81 rfl (lv_at hl 1 rfl) ?_
            refine lv_iload_n hx hb dX3_heapify_82 rfl (lv_at hl 0 rfl) ?_
            have hPc := hP.sub (ws' := [(h, .inr (0, [.null, .ref u, .int (nI 4), .int (nI 16), .int (nI d)])), (u, .inl (G.2.1 0, qA (16 + 1) (f)))]) [0, 1] rfl
            have hDc := hD.sub (ws' := [(h, .inr (0, [.null, .ref u, .int (nI 4), .int (nI 16), .int (nI d)])), (u, .inl (G.2.1 0, qA (16 + 1) (f)))]) [0, 1] (by decide) rfl
            have hFc := va_free (wc := [(h, .inr (0, [.null, .ref u, .int (nI 4), .int (nI 16), .int (nI d)])), (u, .inl (G.2.1 0, qA (16 + 1) (f)))]) hD hS hA [0, 1] rfl
            refine va_callv (va_runV (As := [.int (nI (i + 1))]) (rest := []) ⟨hx, hb, hml, hown, hts⟩ (m_fdn l G _ h u 16 4 d (i + 1) .null f x hd (by omega) (by omega) (by decide) (by decide) hO hbs hPc (hDc.weaken (fun _ _ _ _ => trivial))) (cwV 1 hts (lw_V q307 q308 q309 q7 q310) rfl rfl rfl (by decide +kernel) ⟨Nat.le_of_ble_eq_true rfl, Nat.le_of_ble_eq_true rfl⟩) (PcG.v (va_recv hK hPc (ci := 0) (q0 := 0) (q := (RX3, TX3, 5)) rfl rfl) (hG.sub hS hFc)) rfl rfl hl.1 rfl (lv_room (Nat.le_of_ble_eq_true rfl)) dX3_heapify_83 ⟨Nat.le_of_ble_eq_true rfl, Nat.le_of_ble_eq_true rfl⟩) hS (fun q _ h => hFc q h) hFc (fun u9 t H74 locs ht hvm hw hB hz1 hk1 hS => ?_)
            try dsimp only at hB
            rw [ht] at hB
            obtain ⟨hP, hD1, hb9⟩ := hB
            refine lv_iinc (v := nI i) (lv' := [(3, .int (nI i)), (2, .ref h)]) hx hb dX3_heapify_86 hl (k := 0) rfl (pk_m1 i) (by decide) rfl (fun ls hl => ?_)
            refine lv_goto (tgt := 77) hx hb dX3_heapify_89 (by decide) ?_
            exact ih u9.1 u9.2 _ _ _ (by omega) hw.2 (fun z => (hw.1 z).trans (hC z)) hb9 hP (hD1.weaken (fun _ q _ h => hFc q.1 h)) hS (lv_sub hl [0, 1] rfl)
      exact loop (4 / d) _ _ _ _ _ (by omega) (hE.2 _) (fun z => rfl) hbs hP hD hS (lv_sub hl [0, 1] rfl)
    · exact absurd c2 (by omega)
  · exact absurd c1 (by omega)
set_option maxHeartbeats 4000000 in
set_option maxRecDepth 100000 in
/-- heapify: a new heap of the four values in the row -/
theorem m_hpfC (l : Launch) (G : gG) (H0 : Heap) (d ro : Nat) (g : Nat → Option Nat) (v : Nat → Int32) (hd : d = 2 ∨ d = 3) (hg : ∀ j : Nat, j < 4 → ∃ y : Nat, g j = some y ∧ bx G H0 y (v j)) (hP : va_P G.1 vwCl [(ro, .inl (G.2.1 2, qA (4) (g)))] H0) (hD : va_D (fun _ => True) [(ro, .inl (G.2.1 2, qA (4) (g)))]) : Met l yX3_heapify_2 (ws_ yX3_heapify_2 cX3_heapify_2 5 (some (.object "DaryArrayHeap"))) ({ frames := 5, cells := 2, slots := 22, locals := 110 }) (PcG G [.int (nI d), .ref ro, .ref ((G.2.2 1))] H0 (va_A [(ro, .inl (G.2.1 2, qA (4) (g)))] H0.size)) (va_Qr (fun u : Nat × (Nat → Option Nat) × (Nat → Int32) => (∀ z : Int32, cnt u.2.2 4 z = cnt (fun j => v (j - 1)) 4 z) ∧ ho false d 4 1 u.2.2) (fun u h t => va_P G.1 vwCl (wH G h u.1 16 4 d (cV G false) u.2.1) t.heap ∧ va_D (va_A [(ro, .inl (G.2.1 2, qA (4) (g)))] H0.size) (wH G h u.1 16 4 d (cV G false) u.2.1) ∧ bxs G t.heap u.2.1 4 u.2.2) (va_A [(ro, .inl (G.2.1 2, qA (4) (g)))] H0.size)) 2 22 (va_A [(ro, .inl (G.2.1 2, qA (4) (g)))] H0.size) := by
  refine Met.ofW (cc := cX3_heapify_2) (maxL := 5) (ret := (some (.object "DaryArrayHeap"))) (by decide) rfl ?_
  intro p e s m args below meth c s₁ B hml hv
  obtain ⟨rfl, rfl, hG⟩ := hv
  have hx := B.exec
  have hb := B.bytes
  have hr := B.returns
  have hts := atoms_spec (ws := ws_ yX3_heapify_2 cX3_heapify_2 5 (some (.object "DaryArrayHeap"))) B.pre
  have hts : ∀ w ∈ lw_all, w.before _ s = true := fun w h => hts w (List.mem_cons_of_mem _ h)
  have hown : s.vm.findClass RX3 = some m.cls := findClass_of_methodNamed B.named
  have hlocks := B.notSynchronized
  have hK := hG.K
  have hbk : ∀ (H : Heap) (locs : List Loc), va_S (va_A [(ro, .inl (G.2.1 2, qA (4) (g)))] s.heap.size) s.heap H locs → bK G s.heap H := fun H locs h => bK.of hK hP (nI_a 2 (by decide) nI_nil) h.2.1
  have hD := hD.self (sz := s.heap.size)
  generalize hAe : va_A [(ro, .inl (G.2.1 2, qA (4) (g)))] s.heap.size = A at hD hG hbk ⊢
  have hA : ∀ q : Nat, s.heap.size ≤ q → A q := fun q h => by rw [← hAe]; exact Or.inr h
  have hS : va_S A s.heap s.heap [] := va_S.rf
  have hl := lv_entry ([.int (nI d), .ref ro, .ref ((G.2.2 1))]) (n := 5) (Nat.le_of_ble_eq_true rfl)
  rw [lg_entry_eq]
  generalize (lg_sl ([.int (nI d), .ref ro, .ref ((G.2.2 1))]) ++ List.replicate (5 - (lg_sl ([.int (nI d), .ref ro, .ref ((G.2.2 1))])).length) Slot.unset).toArray = ls at hl ⊢
  have hl : lv_has ls 5 [(0, .int (nI d)), (1, .ref ro), (2, .ref ((G.2.2 1)))] := hl
  refine lv_iload_n hx hb dX3_heapify_2_0 rfl (lv_at hl 0 rfl) ?_
  refine lv_iconst (v := nI 2) hx hb dX3_heapify_2_1 (by decide) ?_
  refine bn_ge (tgt := 15) hx hb dX3_heapify_2_2 (by decide) (by omega) (by omega) (fun c1 => ?_) (fun c1 => ?_)
  · refine lv_aload_n hx hb dX3_heapify_2_15 rfl (lv_at hl 1 rfl) ?_
    refine lv_ifnonnull (tgt := 29) hx hb dX3_heapify_2_16 (by decide) ?_
    refine lv_aload_n hx hb dX3_heapify_2_29 rfl (lv_at hl 1 rfl) ?_
    refine va_alen (v := nI (4)) hx hb hK hP 0 2 rfl rfl rfl dX3_heapify_2_30 ?_
    refine bz_ne (tgt := 44) hx hb dX3_heapify_2_31 (by decide) (by omega) (fun c2 => ?_) (fun c2 => ?_)
    · refine va_new (ci := 0) (fs := [.null, .null, .int (nI 0), .int (nI 0), .int (nI 0)]) (C := RX3) (T := TX3) (N := 5) hx hb hts in_X3 tyX3 tyX3_ok hown (hts _ q302) (hts _ q36) (hts _ q7) hK hP hD hS hA rfl (fun j hj => by rcases (show j = 0 ∨ j = 1 ∨ j = 2 ∨ j = 3 ∨ j = 4 by omega) with rfl | rfl | rfl | rfl | rfl <;> rfl) (Nat.le_of_ble_eq_true rfl) (Nat.le_of_ble_eq_true rfl) dX3_heapify_2_44 (fun h H75 hP hD hS => ?_)
      have hP : va_P G.1 vwCl [(ro, .inl (G.2.1 2, qA (4) (g))), (h, .inr (0, [.null, .null, .int (nI 0), .int (nI 0), .int (nI 0)]))] H75 := hP
      have hD : va_D A [(ro, .inl (G.2.1 2, qA (4) (g))), (h, .inr (0, [.null, .null, .int (nI 0), .int (nI 0), .int (nI 0)]))] := hD
      refine W.widen (k := 1) (n := 5) (by decide) (by decide) ?_
      refine lv_dup hx hb dX3_heapify_2_47 rfl ?_
      refine lv_iload_n hx hb dX3_heapify_2_48 rfl (lv_at hl 0 rfl) ?_
      refine lv_aload_n hx hb dX3_heapify_2_49 rfl (lv_at hl 2 rfl) ?_
      refine lv_aload_n hx hb dX3_heapify_2_50 rfl (lv_at hl 1 rfl) ?_
      refine va_alen (v := nI (4)) hx hb hK hP 0 2 rfl rfl rfl dX3_heapify_2_51 ?_
      have hPc := hP.sub (ws' := [(h, .inr (0, [.null, .null, .int (nI 0), .int (nI 0), .int (nI 0)]))]) [1] rfl
      have hDc := hD.sub (ws' := [(h, .inr (0, [.null, .null, .int (nI 0), .int (nI 0), .int (nI 0)]))]) [1] (by decide) rfl
      have hFc := va_free (wc := [(h, .inr (0, [.null, .null, .int (nI 0), .int (nI 0), .int (nI 0)]))]) hD hS hA [1] rfl
      refine va_callv (va_runI (As := [.int (nI d), .ref ((G.2.2 1)), .int (nI 4)]) (rest := [.ref h]) ⟨hx, hb, hml, hown, hts⟩ (m_dI2 l G _ h d 4 false (by decide) hd hPc (hDc.weaken (fun _ _ _ _ => trivial))) (cwI 3 hts (lw_meth q42) rfl rfl rfl (hts _ q7) (hts _ q40) (hts _ q41) rfl (by decide +kernel) ⟨Nat.le_of_ble_eq_true rfl, Nat.le_of_ble_eq_true rfl⟩) (PcG.s (hG.sub hS hFc)) rfl rfl hl.1 rfl (lv_room (Nat.le_of_ble_eq_true rfl)) dX3_heapify_2_52 ⟨Nat.le_of_ble_eq_true rfl, Nat.le_of_ble_eq_true rfl⟩) hS (fun q _ h => hFc q h) hFc (fun u t H76 locs ht hvm hw hB hz1 hk1 hS => ?_)
      try dsimp only at hB
      rw [ht] at hB
      obtain ⟨hP1, hD1⟩ := hB
      obtain ⟨hP, hD⟩ := va_join (wr := [(ro, .inl (G.2.1 2, qA (4) (g)))]) (w1 := [(h, .inr (0, [.ref ((G.2.2 1)), .ref u, .int (nI 0), .int (nI 16), .int (nI d)])), (u, .inl (G.2.1 0, qA (16 + 1) ((fun _ => none))))]) hP hD [1] [0] rfl rfl (by decide) (by decide) hk1 hFc hP1 hD1
      have hP : va_P G.1 vwCl [(ro, .inl (G.2.1 2, qA (4) (g))), (h, .inr (0, [.ref ((G.2.2 1)), .ref u, .int (nI 0), .int (nI 16), .int (nI d)])), (u, .inl (G.2.1 0, qA (16 + 1) ((fun _ => none))))] H76 := hP
      have hD : va_D A [(ro, .inl (G.2.1 2, qA (4) (g))), (h, .inr (0, [.ref ((G.2.2 1)), .ref u, .int (nI 0), .int (nI 16), .int (nI d)])), (u, .inl (G.2.1 0, qA (16 + 1) ((fun _ => none))))] := hD
      refine W.widen (k := 2) (n := 22) (by decide) (by decide) ?_
      refine lv_astore_n (lv' := [(3, .ref h), (0, .int (nI d)), (1, .ref ro), (2, .ref ((G.2.2 1)))]) hx hb dX3_heapify_2_55 rfl hl (by decide) rfl (fun ls hl => ?_)
      refine lv_aload_n hx hb dX3_heapify_2_56 rfl (lv_at hl 2 rfl) ?_
      refine lv_iconst (v := nI 0) hx hb dX3_heapify_2_57 (by decide) ?_
      refine lv_aload_n hx hb dX3_heapify_2_58 rfl (lv_at hl 0 rfl) ?_
      refine va_get (D := G.1) (ci := 0) (v := .ref u) (C := RX3) (T := TX3) (N := 5) hx hb hts in_X3 hown hK hP 1 rfl rfl 1 (by decide) (hts _ q160) (fun x9 h9 => u_same (hts _ q161) x9 h9) rfl dX3_heapify_2_59 ?_
      refine lv_iconst (v := nI 1) hx hb dX3_heapify_2_62 (by decide) ?_
      refine lv_aload_n hx hb dX3_heapify_2_63 rfl (lv_at hl 2 rfl) ?_
      refine va_alen (v := nI (4)) hx hb hK hP 0 2 rfl rfl rfl dX3_heapify_2_64 ?_
      refine va_copyq (C := "java/lang/Integer") hx hb (by rw [hml]; exact hl.1.symm) hown (hts _ q253) (hts _ q255) (hts _ q254) (hts _ q18) hK hP hD hS 0 2 2 0 rfl rfl rfl rfl (nI_pos (by decide)) (nI_pos (by decide)) (nI_pos (by decide)) (by rw [nI_clamp (by decide), nI_clamp (by decide)]; decide) (by rw [nI_clamp (by decide), nI_clamp (by decide)]; decide) (fun i hi y hy => by
        rw [nI_clamp (by decide)] at hy
        rw [nI_clamp (by decide)] at hi
        obtain ⟨y9, hf9, hy9⟩ := hg (0 + i) (by omega)
        cases hf9.symm.trans hy
        exact bx.recv hK (hbk _ _ hS _ _ hy9)) (vb_asgC hG.N.toO) (Nat.le_of_ble_eq_true rfl) (Nat.le_of_ble_eq_true rfl) dX3_heapify_2_65 (fun H77 locs hP hD hS => ?_)
      rw [nI_clamp (show 0 < 2 ^ 31 by decide), nI_clamp (show 1 < 2 ^ 31 by decide), nI_clamp (show 4 < 2 ^ 31 by decide)] at hP hD
      have hP : va_P G.1 vwCl [(ro, .inl (G.2.1 2, qA (4) (g))), (h, .inr (0, [.ref ((G.2.2 1)), .ref u, .int (nI 0), .int (nI 16), .int (nI d)])), (u, .inl (G.2.1 0, qA (16 + 1) (va_cpy g (fun _ => none) 0 1 4)))] H77 := hP
      have hD : va_D A [(ro, .inl (G.2.1 2, qA (4) (g))), (h, .inr (0, [.ref ((G.2.2 1)), .ref u, .int (nI 0), .int (nI 16), .int (nI d)])), (u, .inl (G.2.1 0, qA (16 + 1) (va_cpy g (fun _ => none) 0 1 4)))] := hD
      refine lv_aload_n hx hb dX3_heapify_2_68 rfl (lv_at hl 0 rfl) ?_
      refine lv_aload_n hx hb dX3_heapify_2_69 rfl (lv_at hl 2 rfl) ?_
      refine va_alen (v := nI (4)) hx hb hK hP 0 2 rfl rfl rfl dX3_heapify_2_70 ?_
      refine va_put (D := G.1) (ci := 0) (v := .int (nI 4)) (ty := .int) (C := RX3) (T := TX3) (N := 5) hx hb hts in_X3 tyX3 tyX3_ok nmX3 hown hK hP hD hS 1 rfl rfl 2 (by decide) (hts _ q165) (fun x9 h9 => u_same (hts _ q166) x9 h9) rfl (by decide +kernel) rfl rfl (Nat.le_of_ble_eq_true rfl) dX3_heapify_2_71 (fun H78 locs hP hD hS => ?_)
      have hP : va_P G.1 vwCl [(ro, .inl (G.2.1 2, qA (4) (g))), (h, .inr (0, [.ref ((G.2.2 1)), .ref u, .int (nI 4), .int (nI 16), .int (nI d)])), (u, .inl (G.2.1 0, qA (16 + 1) (va_cpy g (fun _ => none) 0 1 4)))] H78 := hP
      have hD : va_D A [(ro, .inl (G.2.1 2, qA (4) (g))), (h, .inr (0, [.ref ((G.2.2 1)), .ref u, .int (nI 4), .int (nI 16), .int (nI d)])), (u, .inl (G.2.1 0, qA (16 + 1) (va_cpy g (fun _ => none) 0 1 4)))] := hD
      have hbs : bxs G s.heap (va_cpy g (fun _ => none) 0 1 4) 4 (fun j => v (j - 1)) := fun j j1 j2 => by
        obtain ⟨y9, hf9, hy9⟩ := hg (j - 1) (by omega)
        exact ⟨y9, (pk_cpy_in j1 (by omega)).trans ((congrArg g (by omega)).trans hf9), hy9⟩
      have hbs := hbs.kept (hbk _ _ hS)
      have hE : 4 / d + 1 ≤ 4 ∧ ∀ w : Nat → Int32, ho false d 4 (4 / d + 1) w := by
        rcases hd with rfl | rfl
        · exact ⟨by decide, fun w i h1 h2 h3 => absurd h3 (by unfold pr; omega)⟩
        · exact ⟨by decide, fun w i h1 h2 h3 => absurd h3 (by unfold pr; omega)⟩
      refine lv_aload_n hx hb dX3_heapify_2_74 rfl (lv_at hl 2 rfl) ?_
      refine va_alen (v := nI (4)) hx hb hK hP 0 2 rfl rfl rfl dX3_heapify_2_75 ?_
      refine lv_iload_n hx hb dX3_heapify_2_76 rfl (lv_at hl 1 rfl) ?_
      refine lv_idiv hx hb dX3_heapify_2_77 (nI_ne0 (by omega) (by omega)) ?_
      refine lv_tn (nI (4 / d)) (pk_div (by omega) (by omega) (by omega)) ?_
      refine lv_istore (lv' := [(4, .int (nI (4 / d))), (3, .ref h), (0, .int (nI d)), (1, .ref ro), (2, .ref ((G.2.2 1)))]) hx hb dX3_heapify_2_78 hl (by decide) rfl (fun ls hl => ?_)
      have hP := hP.sub (ws' := [(h, .inr (0, [.ref ((G.2.2 1)), .ref u, .int (nI 4), .int (nI 16), .int (nI d)])), (u, .inl (G.2.1 0, qA (16 + 1) (va_cpy g (fun _ => none) 0 1 4)))]) [1, 2] rfl
      have hD := hD.sub (ws' := [(h, .inr (0, [.ref ((G.2.2 1)), .ref u, .int (nI 4), .int (nI 16), .int (nI d)])), (u, .inl (G.2.1 0, qA (16 + 1) (va_cpy g (fun _ => none) 0 1 4)))]) [1, 2] (by decide) rfl
      have loop : ∀ (i : Nat) (f : Nat → Option Nat) (x : Nat → Int32) (H : Heap) (locs : List Loc) (ls : Array Slot), i ≤ 3 → ho false d 4 (i + 1) x → (∀ z : Int32, cnt x 4 z = cnt (fun j => v (j - 1)) 4 z) → bxs G H f 4 x → va_P G.1 vwCl [(h, .inr (0, [.ref ((G.2.2 1)), .ref u, .int (nI 4), .int (nI 16), .int (nI d)])), (u, .inl (G.2.1 0, qA (16 + 1) (f)))] H → va_D A [(h, .inr (0, [.ref ((G.2.2 1)), .ref u, .int (nI 4), .int (nI 16), .int (nI d)])), (u, .inl (G.2.1 0, qA (16 + 1) (f)))] → va_S A s.heap H locs → lv_has ls 5 [(4, .int (nI i)), (3, .ref h)] → W p l e (headSpec (ws_ yX3_heapify_2 cX3_heapify_2 5 (some (.object "DaryArrayHeap"))) ({ frames := 5, cells := 2, slots := 22, locals := 110 })).room s m ([.int (nI d), .ref ro, .ref ((G.2.2 1))] : List Value).toArray below meth c H locs 2 22 (MQ below (va_Qr (fun u : Nat × (Nat → Option Nat) × (Nat → Int32) => (∀ z : Int32, cnt u.2.2 4 z = cnt (fun j => v (j - 1)) 4 z) ∧ ho false d 4 1 u.2.2) (fun u h t => va_P G.1 vwCl (wH G h u.1 16 4 d (cV G false) u.2.1) t.heap ∧ va_D (A) (wH G h u.1 16 4 d (cV G false) u.2.1) ∧ bxs G t.heap u.2.1 4 u.2.2) (A)) ([.int (nI d), .ref ro, .ref ((G.2.2 1))] : List Value).toArray s 2 22 A) (F0 m 80 ls []) := by
        intro i
        induction i with
        | zero =>
          intro f x H locs ls hi hO hC hbs hP hD hS hl
          refine lv_iload hx hb dX3_heapify_2_80 (lv_at hl 0 rfl) ?_
          refine bz_le (tgt := 97) hx hb dX3_heapify_2_82 (by decide) (by omega) (fun c3 => ?_) (fun c3 => ?_)
          · refine lv_aload_n hx hb dX3_heapify_2_97 rfl (lv_at hl 1 rfl) ?_
            exact W.aret (v := .ref h) hx hb hr (Or.inl ⟨_, rfl⟩) (Or.inr ⟨_, rfl⟩) (fun t ht hW => ⟨⟨(u, f, x), h, rfl, ⟨hC, hO⟩, by rw [ht]; exact hP, hD, by rw [ht]; exact hbs⟩, hS.F ht⟩) hS.2.2 dX3_heapify_2_98
          · exact absurd c3 (by omega)
        | succ i ih =>
          intro f x H locs ls hi hO hC hbs hP hD hS hl
          refine lv_iload hx hb dX3_heapify_2_80 (lv_at hl 0 rfl) ?_
          refine bz_le (tgt := 97) hx hb dX3_heapify_2_82 (by decide) (by omega) (fun c3 => ?_) (fun c3 => ?_)
          · exact absurd c3 (by omega)
          · refine lv_aload_n hx hb dX3_heapify_2_85 rfl (lv_at hl 1 rfl) ?_
            refine lv_iload hx hb dX3_heapify_2_86 (lv_at hl 0 rfl) ?_
            have hPc := hP.sub (ws' := [(h, .inr (0, [.ref ((G.2.2 1)), .ref u, .int (nI 4), .int (nI 16), .int (nI d)])), (u, .inl (G.2.1 0, qA (16 + 1) (f)))]) [0, 1] rfl
            have hDc := hD.sub (ws' := [(h, .inr (0, [.ref ((G.2.2 1)), .ref u, .int (nI 4), .int (nI 16), .int (nI d)])), (u, .inl (G.2.1 0, qA (16 + 1) (f)))]) [0, 1] (by decide) rfl
            have hFc := va_free (wc := [(h, .inr (0, [.ref ((G.2.2 1)), .ref u, .int (nI 4), .int (nI 16), .int (nI d)])), (u, .inl (G.2.1 0, qA (16 + 1) (f)))]) hD hS hA [0, 1] rfl
            refine va_callv (va_runV (As := [.int (nI (i + 1))]) (rest := []) ⟨hx, hb, hml, hown, hts⟩ (m_fdnC l G _ h u 16 4 d (i + 1) f x hd (by omega) (by omega) (by decide) (by decide) hO hbs hPc (hDc.weaken (fun _ _ _ _ => trivial))) (cwV 1 hts (lw_V q315 q316 q317 q7 q318) rfl rfl rfl (by decide +kernel) ⟨Nat.le_of_ble_eq_true rfl, Nat.le_of_ble_eq_true rfl⟩) (PcG.v (va_recv hK hPc (ci := 0) (q0 := 0) (q := (RX3, TX3, 5)) rfl rfl) (hG.sub hS hFc)) rfl rfl hl.1 rfl (lv_room (Nat.le_of_ble_eq_true rfl)) dX3_heapify_2_88 ⟨Nat.le_of_ble_eq_true rfl, Nat.le_of_ble_eq_true rfl⟩) hS (fun q _ h => hFc q h) hFc (fun u9 t H79 locs ht hvm hw hB hz1 hk1 hS => ?_)
            try dsimp only at hB
            rw [ht] at hB
            obtain ⟨hP, hD1, hb9⟩ := hB
            refine lv_iinc (v := nI i) (lv' := [(4, .int (nI i)), (3, .ref h)]) hx hb dX3_heapify_2_91 hl (k := 0) rfl (pk_m1 i) (by decide) rfl (fun ls hl => ?_)
            refine lv_goto (tgt := 80) hx hb dX3_heapify_2_94 (by decide) ?_
            exact ih u9.1 u9.2 _ _ _ (by omega) hw.2 (fun z => (hw.1 z).trans (hC z)) hb9 hP (hD1.weaken (fun _ q _ h => hFc q.1 h)) hS (lv_sub hl [0, 1] rfl)
      exact loop (4 / d) _ _ _ _ _ (by omega) (hE.2 _) (fun z => rfl) hbs hP hD hS (lv_sub hl [0, 1] rfl)
    · exact absurd c2 (by omega)
  · exact absurd c1 (by omega)
end
section
/-! THE DESK: its world (the desk, its file, four heaps with their arrays), what holds of it, and how a heap is handed to a callee and comes back -/
set_option maxRecDepth 100000
def dd (i : Nat) : Nat := 2 + i % 2
def upq (i : Nat) : Bool := decide (i < 2)
theorem dd_or (i : Nat) : dd i = 2 ∨ dd i = 3 := by
  unfold dd
  omega
def r4 (x : Int32) : Nat := x.toBitVec.toNat % 2 ^ 2
theorem r4_lt (x : Int32) : r4 x < 4 := Nat.mod_lt _ (by decide)
theorem r4_and (x : Int32) : x &&& nI 3 = nI (r4 x) := pk_and x 2 (by decide)
def hps (G : gG) (hp ar cap n : Nat → Nat) (f : Nat → Nat → Option Nat) : va_W := [(hp 0, .inr (0, [cV G (upq 0), .ref (ar 0), .int (nI (n 0)), .int (nI 16), .int (nI (dd 0))])), (ar 0, .inl (G.2.1 0, qA (cap 0 + 1) (f 0))), (hp 1, .inr (0, [cV G (upq 1), .ref (ar 1), .int (nI (n 1)), .int (nI 16), .int (nI (dd 1))])), (ar 1, .inl (G.2.1 0, qA (cap 1 + 1) (f 1))), (hp 2, .inr (0, [cV G (upq 2), .ref (ar 2), .int (nI (n 2)), .int (nI 16), .int (nI (dd 2))])), (ar 2, .inl (G.2.1 0, qA (cap 2 + 1) (f 2))), (hp 3, .inr (0, [cV G (upq 3), .ref (ar 3), .int (nI (n 3)), .int (nI 16), .int (nI (dd 3))])), (ar 3, .inl (G.2.1 0, qA (cap 3 + 1) (f 3)))]
theorem dsk_P {G : gG} {hp ar cap n : Nat → Nat} {f : Nat → Nat → Option Nat} {c0 c1 : Nat × va_E} {H : Heap} {j : Nat} (hj : j < 4) (hP : va_P G.1 vwCl (c0 :: c1 :: hps G hp ar cap n f) H) : va_P G.1 vwCl (wH G (hp j) (ar j) (cap j) (n j) (dd j) (cV G (upq j)) (f j)) H := by
  match j, hj with
  | 0, _ => exact hP.sub [2, 3] rfl
  | 1, _ => exact hP.sub [4, 5] rfl
  | 2, _ => exact hP.sub [6, 7] rfl
  | 3, _ => exact hP.sub [8, 9] rfl
theorem dsk_D {G : gG} {hp ar cap n : Nat → Nat} {f : Nat → Nat → Option Nat} {c0 c1 : Nat × va_E} {A : Nat → Prop} {j : Nat} (hj : j < 4) (hD : va_D A (c0 :: c1 :: hps G hp ar cap n f)) : va_D A (wH G (hp j) (ar j) (cap j) (n j) (dd j) (cV G (upq j)) (f j)) := by
  match j, hj with
  | 0, _ => exact hD.sub [2, 3] (by decide) rfl
  | 1, _ => exact hD.sub [4, 5] (by decide) rfl
  | 2, _ => exact hD.sub [6, 7] (by decide) rfl
  | 3, _ => exact hD.sub [8, 9] (by decide) rfl
/-- a heap comes back -/
theorem dsk_join {G : gG} {hp ar cap n : Nat → Nat} {f : Nat → Nat → Option Nat} {c0 c1 : Nat × va_E} {A0 : Nat → Prop} {H H1 : Heap} {j a' cap' n' : Nat} {f' : Nat → Option Nat} (hj : j < 4) (hP : va_P G.1 vwCl (c0 :: c1 :: hps G hp ar cap n f) H) (hD : va_D A0 (c0 :: c1 :: hps G hp ar cap n f)) (hk : ∀ q : Nat, q < H.size → ¬ va_A (wH G (hp j) (ar j) (cap j) (n j) (dd j) (cV G (upq j)) (f j)) H.size q → H1[q]? = H[q]?) (hF : ∀ q, va_A (wH G (hp j) (ar j) (cap j) (n j) (dd j) (cV G (upq j)) (f j)) H.size q → A0 q) (hP1 : va_P G.1 vwCl (wH G (hp j) (a') (cap') (n') (dd j) (cV G (upq j)) (f')) H1) (hD1 : va_D (va_A (wH G (hp j) (ar j) (cap j) (n j) (dd j) (cV G (upq j)) (f j)) H.size) (wH G (hp j) (a') (cap') (n') (dd j) (cV G (upq j)) (f'))) :
    va_P G.1 vwCl (c0 :: c1 :: hps G hp (va_up ar j a') (va_up cap j cap') (va_up n j n') (va_up f j f')) H1 ∧ va_D A0 (c0 :: c1 :: hps G hp (va_up ar j a') (va_up cap j cap') (va_up n j n') (va_up f j f')) := by
  match j, hj with
  | 0, _ =>
    obtain ⟨h1, h2⟩ := va_join (wr := [c0, c1, (hp 1, .inr (0, [cV G (upq 1), .ref (ar 1), .int (nI (n 1)), .int (nI 16), .int (nI (dd 1))])), (ar 1, .inl (G.2.1 0, qA (cap 1 + 1) (f 1))), (hp 2, .inr (0, [cV G (upq 2), .ref (ar 2), .int (nI (n 2)), .int (nI 16), .int (nI (dd 2))])), (ar 2, .inl (G.2.1 0, qA (cap 2 + 1) (f 2))), (hp 3, .inr (0, [cV G (upq 3), .ref (ar 3), .int (nI (n 3)), .int (nI 16), .int (nI (dd 3))])), (ar 3, .inl (G.2.1 0, qA (cap 3 + 1) (f 3)))]) (w1 := (wH G (hp 0) (a') (cap') (n') (dd 0) (cV G (upq 0)) (f'))) hP hD [2, 3] [0, 1, 4, 5, 6, 7, 8, 9] rfl rfl (by decide) (by decide) hk hF hP1 hD1
    exact ⟨h1.sub [0, 1, 8, 9, 2, 3, 4, 5, 6, 7] rfl, h2.sub [0, 1, 8, 9, 2, 3, 4, 5, 6, 7] (by decide) rfl⟩
  | 1, _ =>
    obtain ⟨h1, h2⟩ := va_join (wr := [c0, c1, (hp 0, .inr (0, [cV G (upq 0), .ref (ar 0), .int (nI (n 0)), .int (nI 16), .int (nI (dd 0))])), (ar 0, .inl (G.2.1 0, qA (cap 0 + 1) (f 0))), (hp 2, .inr (0, [cV G (upq 2), .ref (ar 2), .int (nI (n 2)), .int (nI 16), .int (nI (dd 2))])), (ar 2, .inl (G.2.1 0, qA (cap 2 + 1) (f 2))), (hp 3, .inr (0, [cV G (upq 3), .ref (ar 3), .int (nI (n 3)), .int (nI 16), .int (nI (dd 3))])), (ar 3, .inl (G.2.1 0, qA (cap 3 + 1) (f 3)))]) (w1 := (wH G (hp 1) (a') (cap') (n') (dd 1) (cV G (upq 1)) (f'))) hP hD [4, 5] [0, 1, 2, 3, 6, 7, 8, 9] rfl rfl (by decide) (by decide) hk hF hP1 hD1
    exact ⟨h1.sub [0, 1, 2, 3, 8, 9, 4, 5, 6, 7] rfl, h2.sub [0, 1, 2, 3, 8, 9, 4, 5, 6, 7] (by decide) rfl⟩
  | 2, _ =>
    obtain ⟨h1, h2⟩ := va_join (wr := [c0, c1, (hp 0, .inr (0, [cV G (upq 0), .ref (ar 0), .int (nI (n 0)), .int (nI 16), .int (nI (dd 0))])), (ar 0, .inl (G.2.1 0, qA (cap 0 + 1) (f 0))), (hp 1, .inr (0, [cV G (upq 1), .ref (ar 1), .int (nI (n 1)), .int (nI 16), .int (nI (dd 1))])), (ar 1, .inl (G.2.1 0, qA (cap 1 + 1) (f 1))), (hp 3, .inr (0, [cV G (upq 3), .ref (ar 3), .int (nI (n 3)), .int (nI 16), .int (nI (dd 3))])), (ar 3, .inl (G.2.1 0, qA (cap 3 + 1) (f 3)))]) (w1 := (wH G (hp 2) (a') (cap') (n') (dd 2) (cV G (upq 2)) (f'))) hP hD [6, 7] [0, 1, 2, 3, 4, 5, 8, 9] rfl rfl (by decide) (by decide) hk hF hP1 hD1
    exact ⟨h1.sub [0, 1, 2, 3, 4, 5, 8, 9, 6, 7] rfl, h2.sub [0, 1, 2, 3, 4, 5, 8, 9, 6, 7] (by decide) rfl⟩
  | 3, _ =>
    obtain ⟨h1, h2⟩ := va_join (wr := [c0, c1, (hp 0, .inr (0, [cV G (upq 0), .ref (ar 0), .int (nI (n 0)), .int (nI 16), .int (nI (dd 0))])), (ar 0, .inl (G.2.1 0, qA (cap 0 + 1) (f 0))), (hp 1, .inr (0, [cV G (upq 1), .ref (ar 1), .int (nI (n 1)), .int (nI 16), .int (nI (dd 1))])), (ar 1, .inl (G.2.1 0, qA (cap 1 + 1) (f 1))), (hp 2, .inr (0, [cV G (upq 2), .ref (ar 2), .int (nI (n 2)), .int (nI 16), .int (nI (dd 2))])), (ar 2, .inl (G.2.1 0, qA (cap 2 + 1) (f 2)))]) (w1 := (wH G (hp 3) (a') (cap') (n') (dd 3) (cV G (upq 3)) (f'))) hP hD [8, 9] [0, 1, 2, 3, 4, 5, 6, 7] rfl rfl (by decide) (by decide) hk hF hP1 hD1
    exact ⟨h1.sub [0, 1, 2, 3, 4, 5, 6, 7, 8, 9] rfl, h2.sub [0, 1, 2, 3, 4, 5, 6, 7, 8, 9] (by decide) rfl⟩
theorem hps_nI {G : gG} {hp ar cap n : Nat → Nat} {f : Nat → Nat → Option Nat} : ∀ q ∈ hps G hp ar cap n f, notI G q := nI_o (by decide) (nI_a 0 (by decide) (nI_o (by decide) (nI_a 0 (by decide) (nI_o (by decide) (nI_a 0 (by decide) (nI_o (by decide) (nI_a 0 (by decide) nI_nil)))))))
theorem keep0 {D : va_G} {cl : List vw_C} {ws : va_W} {H H1 : Heap} (hP : va_P D cl ws H) (hk : ∀ q : Nat, q < H.size → ¬ va_A [] H.size q → H1[q]? = H[q]?) : va_P D cl ws H1 := hP.kept (fun k q hq => hk q.1 (hP k q hq).lt (fun z => by
  rcases z with ⟨k9, e9, h9⟩ | z
  · cases h9
  · exact absurd (hP k q hq).lt (Nat.not_lt.mpr z)))
theorem bK0 {G : gG} {H H1 : Heap} (hk : ∀ q : Nat, q < H.size → ¬ va_A [] H.size q → H1[q]? = H[q]?) : bK G H H1 := fun y v h => h.kept (hk y h.lt (fun z => by
  rcases z with ⟨k9, e9, h9⟩ | z
  · cases h9
  · exact absurd h.lt (Nat.not_lt.mpr z)))
/-- what holds of the four heaps -/
def dOK (G : gG) (H : Heap) (puts : Nat) (g : Nat → Option Nat) (hp cap n : Nat → Nat) (f : Nat → Nat → Option Nat) (v : Nat → Nat → Int32) : Prop := (∀ i : Nat, i < 4 → g i = some (hp i)) ∧ puts ≤ 64 ∧ n 0 + n 1 + n 2 + n 3 ≤ puts ∧ ∀ i : Nat, i < 4 → 16 ≤ cap i ∧ cap i ≤ 128 ∧ n i ≤ cap i ∧ ho (upq i) (dd i) (n i) 1 (v i) ∧ bxs G H (f i) (n i) (v i)
theorem dOK.kept {G : gG} {H H1 : Heap} {puts : Nat} {g : Nat → Option Nat} {hp cap n : Nat → Nat} {f : Nat → Nat → Option Nat} {v : Nat → Nat → Int32} (h : dOK G H puts g hp cap n f v) (hb : bK G H H1) : dOK G H1 puts g hp cap n f v := ⟨h.1, h.2.1, h.2.2.1, fun i hi => by
  obtain ⟨a1, a2, a3, a4, a5⟩ := h.2.2.2 i hi
  exact ⟨a1, a2, a3, a4, a5.kept hb⟩⟩
theorem dOK.upd {G : gG} {H H1 : Heap} {puts puts' : Nat} {g : Nat → Option Nat} {hp cap n : Nat → Nat} {f : Nat → Nat → Option Nat} {v : Nat → Nat → Int32} (h : dOK G H puts g hp cap n f v) (hb : bK G H H1) {j n' cap' : Nat} {f' : Nat → Option Nat} {v' : Nat → Int32} (hs : va_up n j n' 0 + va_up n j n' 1 + va_up n j n' 2 + va_up n j n' 3 ≤ puts') (hp' : puts' ≤ 64) (c1 : 16 ≤ cap') (c2 : cap' ≤ 128) (c3 : n' ≤ cap') (c4 : ho (upq j) (dd j) n' 1 v') (c5 : bxs G H1 f' n' v') : dOK G H1 puts' g hp (va_up cap j cap') (va_up n j n') (va_up f j f') (va_up v j v') := ⟨h.1, hp', hs, fun i hi => by
  by_cases hij : i = j
  · subst hij
    simp only [va_up_self]
    exact ⟨c1, c2, c3, c4, c5⟩
  · simp only [va_up_ne _ _ hij]
    obtain ⟨a1, a2, a3, a4, a5⟩ := h.2.2.2 i hi
    exact ⟨a1, a2, a3, a4, a5.kept hb⟩⟩
theorem sum_up {n : Nat → Nat} {j n' : Nat} (hj : j < 4) : va_up n j n' 0 + va_up n j n' 1 + va_up n j n' 2 + va_up n j n' 3 + n j = n 0 + n 1 + n 2 + n 3 + n' := by
  match j, hj with
  | 0, _ => show n' + n 1 + n 2 + n 3 + n 0 = _; omega
  | 1, _ => show n 0 + n' + n 2 + n 3 + n 1 = _; omega
  | 2, _ => show n 0 + n 1 + n' + n 3 + n 2 = _; omega
  | 3, _ => show n 0 + n 1 + n 2 + n' + n 3 = _; omega
theorem le_sum {n : Nat → Nat} {j : Nat} (hj : j < 4) : n j ≤ n 0 + n 1 + n 2 + n 3 := by
  match j, hj with
  | 0, _ => omega
  | 1, _ => omega
  | 2, _ => omega
  | 3, _ => omega
/-- the desk at x, told by how many values each heap holds (N), and how often it holds z (C) -/
def Dk (G : gG) (A : Nat → Prop) (H : Heap) (x : Nat) (ws : va_W) (puts : Nat) (N : Nat → Nat) (C : Nat → Int32 → Nat) : Prop := ∃ (fl : Nat) (g : Nat → Option Nat) (hp ar cap : Nat → Nat) (f : Nat → Nat → Option Nat) (v : Nat → Nat → Int32), ws = (x, .inr (1, [.ref fl, .int (nI puts)])) :: (fl, .inl (G.2.1 1, qA 4 g)) :: hps G hp ar cap N f ∧ dOK G H puts g hp cap N f v ∧ (∀ i : Nat, i < 4 → ∀ z : Int32, C i z = cnt (v i) (N i) z) ∧ va_P G.1 vwCl ws H ∧ va_D A ws
theorem Dk.nI {G : gG} {A : Nat → Prop} {H : Heap} {x : Nat} {ws : va_W} {puts : Nat} {N : Nat → Nat} {C : Nat → Int32 → Nat} (h : Dk G A H x ws puts N C) : ∀ q ∈ ws, notI G q := by
  obtain ⟨fl, g, hp, ar, cap, f, v, rfl, -⟩ := h
  exact nI_o (by decide) (nI_a 1 (by decide) hps_nI)
theorem Dk.P {G : gG} {A : Nat → Prop} {H : Heap} {x : Nat} {ws : va_W} {puts : Nat} {N : Nat → Nat} {C : Nat → Int32 → Nat} (h : Dk G A H x ws puts N C) : va_P G.1 vwCl ws H := by
  obtain ⟨fl, g, hp, ar, cap, f, v, -, -, -, h1, h2⟩ := h
  exact h1
theorem Dk.D {G : gG} {A : Nat → Prop} {H : Heap} {x : Nat} {ws : va_W} {puts : Nat} {N : Nat → Nat} {C : Nat → Int32 → Nat} (h : Dk G A H x ws puts N C) : va_D A ws := by
  obtain ⟨fl, g, hp, ar, cap, f, v, -, -, -, h1, h2⟩ := h
  exact h2
theorem Dk.wk {G : gG} {A B : Nat → Prop} {H : Heap} {x : Nat} {ws : va_W} {puts : Nat} {N : Nat → Nat} {C : Nat → Int32 → Nat} (h : Dk G A H x ws puts N C) (hD : va_D B ws) : Dk G B H x ws puts N C := by
  obtain ⟨fl, g, hp, ar, cap, f, v, e, h1, h2, h3, h4⟩ := h
  exact ⟨fl, g, hp, ar, cap, f, v, e, h1, h2, h3, hD⟩
theorem Dk.kept {G : gG} {A : Nat → Prop} {H H1 : Heap} {x : Nat} {ws : va_W} {puts : Nat} {N : Nat → Nat} {C : Nat → Int32 → Nat} (h : Dk G A H x ws puts N C) (hb : bK G H H1) (hP : va_P G.1 vwCl ws H1) : Dk G A H1 x ws puts N C := by
  obtain ⟨fl, g, hp, ar, cap, f, v, e, h1, h2, h3, h4⟩ := h
  exact ⟨fl, g, hp, ar, cap, f, v, e, h1.kept hb, h2, hP, h4⟩
theorem Dk.congr {G : gG} {A : Nat → Prop} {H : Heap} {x : Nat} {ws : va_W} {puts : Nat} {N N' : Nat → Nat} {C C' : Nat → Int32 → Nat} (h : Dk G A H x ws puts N C) (hN : ∀ i : Nat, i < 4 → N i = N' i) (hC : ∀ i : Nat, i < 4 → ∀ z : Int32, C i z = C' i z) : Dk G A H x ws puts N' C' := by
  obtain ⟨fl, g, hp, ar, cap, f, v, e, h1, h2, h3, h4⟩ := h
  have e0 := hN 0 (by decide)
  have e1 := hN 1 (by decide)
  have e2 := hN 2 (by decide)
  have e3 := hN 3 (by decide)
  refine ⟨fl, g, hp, ar, cap, f, v, ?_, ⟨h1.1, h1.2.1, by rw [← e0, ← e1, ← e2, ← e3]; exact h1.2.2.1, fun i hi => by rw [← hN i hi]; exact h1.2.2.2 i hi⟩, fun i hi z => by rw [← hC i hi z, ← hN i hi]; exact h2 i hi z, h3, h4⟩
  rw [e]
  unfold hps
  rw [e0, e1, e2, e3]
def isMin (C : Nat → Int32 → Nat) (j : Nat) (k : Int32) : Prop := 0 < C j k ∧ ∀ z : Int32, 0 < C j z → ky (upq j) k ≤ ky (upq j) z
theorem isMin.uniq {C : Nat → Int32 → Nat} {j : Nat} {k k' : Int32} (h : isMin C j k) (h' : isMin C j k') : k = k' := ky_inj (Int.le_antisymm (h.2 k' h'.1) (h'.2 k h.1))
theorem isMin_of {C : Nat → Int32 → Nat} {j n : Nat} {v : Nat → Int32} (hC : ∀ z : Int32, C j z = cnt v n z) (hn : 1 ≤ n) (h : ho (upq j) (dd j) n 1 v) : isMin C j (v 1) := ⟨by rw [hC]; exact cnt_pos.mpr ⟨1, Nat.le_refl 1, hn, rfl⟩, fun z hz => by
  rw [hC] at hz
  obtain ⟨i, h1, h2, h3⟩ := cnt_pos.mp hz
  rw [← h3]
  exact ho_min (dd_or j) h i i (Nat.le_refl _) h1 h2⟩
/-- the counts with one more z at j, one less -/
def cAdd (C : Nat → Int32 → Nat) (j : Nat) (k : Int32) : Nat → Int32 → Nat := fun i z => C i z + (if i = j ∧ k = z then 1 else 0)
def cSub (C : Nat → Int32 → Nat) (j : Nat) (k : Int32) : Nat → Int32 → Nat := fun i z => C i z - (if i = j ∧ k = z then 1 else 0)
def cClr (C : Nat → Int32 → Nat) (j : Nat) : Nat → Int32 → Nat := fun i z => if i = j then 0 else C i z
def cPour (C : Nat → Int32 → Nat) (a b : Nat) : Nat → Int32 → Nat := fun i z => if i = a then C a z + C b z else if i = b then 0 else C i z
def nPour (N : Nat → Nat) (a b : Nat) : Nat → Nat := va_up (va_up N a (N a + N b)) b 0
theorem and_16 (key : Int32) : ∃ k : Nat, k < 65536 ∧ key &&& 65535 = nI k := ⟨_, Nat.mod_lt _ (by decide), pk_and key 16 (m := 65535) (by decide)⟩
end
section
/-! THE DESK's METHODS -/
set_option maxRecDepth 100000
theorem cAdd_ok {C : Nat → Int32 → Nat} {N : Nat → Nat} {v : Nat → Nat → Int32} {j n' : Nat} {k : Int32} {v' : Nat → Int32} (hC : ∀ i : Nat, i < 4 → ∀ z : Int32, C i z = cnt (v i) (N i) z) (h : ∀ z : Int32, cnt v' n' z = cnt (v j) (N j) z + (if k = z then 1 else 0)) : ∀ i : Nat, i < 4 → ∀ z : Int32, cAdd C j k i z = cnt (va_up v j v' i) (va_up N j n' i) z := by
  intro i hi z
  unfold cAdd
  by_cases hij : i = j
  · subst hij
    rw [va_up_self, va_up_self, h z, hC i hi z]
    simp
  · rw [va_up_ne _ _ hij, va_up_ne _ _ hij, hC i hi z]
    simp [hij]
theorem cSub_ok {C : Nat → Int32 → Nat} {N : Nat → Nat} {v : Nat → Nat → Int32} {j n' : Nat} {k : Int32} {v' : Nat → Int32} (hC : ∀ i : Nat, i < 4 → ∀ z : Int32, C i z = cnt (v i) (N i) z) (h : ∀ z : Int32, cnt v' n' z + (if k = z then 1 else 0) = cnt (v j) (N j) z) : ∀ i : Nat, i < 4 → ∀ z : Int32, cSub C j k i z = cnt (va_up v j v' i) (va_up N j n' i) z := by
  intro i hi z
  unfold cSub
  by_cases hij : i = j
  · subst hij
    rw [va_up_self, va_up_self, hC i hi z, ← h z]
    simp
  · rw [va_up_ne _ _ hij, va_up_ne _ _ hij, hC i hi z]
    simp [hij]
theorem cClr_ok {C : Nat → Int32 → Nat} {N : Nat → Nat} {v : Nat → Nat → Int32} {j : Nat} (hC : ∀ i : Nat, i < 4 → ∀ z : Int32, C i z = cnt (v i) (N i) z) : ∀ i : Nat, i < 4 → ∀ z : Int32, cClr C j i z = cnt (va_up v j (v j) i) (va_up N j 0 i) z := by
  intro i hi z
  unfold cClr
  by_cases hij : i = j
  · subst hij
    rw [va_up_self, va_up_self]
    simp [cnt]
  · rw [va_up_ne _ _ hij, va_up_ne _ _ hij, hC i hi z]
    simp [hij]
set_option maxHeartbeats 4000000 in
set_option maxRecDepth 100000 in
/-- deleteMin(), by n -/
theorem m_del1 (l : Launch) (G : gG) (H0 : Heap) (h a cap n d : Nat) (up : Bool) (f : Nat → Option Nat) (v : Nat → Int32) (hd : d = 2 ∨ d = 3) (hn1 : 1 ≤ n) (hn : n ≤ cap) (hc1 : 16 ≤ cap) (hc2 : cap ≤ 128) (ho0 : ho up d n 1 v) (hbx : bxs G H0 f n v) (hP : va_P G.1 vwCl (wH G h a cap n d (cV G up) f) H0) (hD : va_D (fun _ => True) (wH G h a cap n d (cV G up) f)) : Met l yX2_deleteMin (ws_ yX2_deleteMin cX2_deleteMin 3 (some (.object "java/lang/Object"))) ({ frames := 4, cells := 1, slots := 129, locals := 91 }) (PcG G [.ref h] H0 (va_A (wH G h a cap n d (cV G up) f) H0.size)) (va_Qr (fun u : Nat × Nat × (Nat → Option Nat) × (Nat → Int32) => 16 ≤ u.2.1 ∧ u.2.1 ≤ 128 ∧ n - 1 ≤ u.2.1 ∧ (∀ z : Int32, cnt u.2.2.2 (n - 1) z + (if v 1 = z then 1 else 0) = cnt v n z) ∧ ho up d (n - 1) 1 u.2.2.2) (fun u y t => bx G t.heap y (v 1) ∧ va_P G.1 vwCl (wH G h u.1 u.2.1 (n - 1) d (cV G up) u.2.2.1) t.heap ∧ va_D (va_A (wH G h a cap n d (cV G up) f) H0.size) (wH G h u.1 u.2.1 (n - 1) d (cV G up) u.2.2.1) ∧ bxs G t.heap u.2.2.1 (n - 1) u.2.2.2) (va_A (wH G h a cap n d (cV G up) f) H0.size)) 1 129 (va_A (wH G h a cap n d (cV G up) f) H0.size) := by
  obtain ⟨n', rfl⟩ : ∃ n', n = n' + 1 := ⟨n - 1, by omega⟩
  exact m_del l G H0 h a cap n' d up f v hd hn hc1 hc2 ho0 hbx hP hD
set_option maxHeartbeats 4000000 in
set_option maxRecDepth 100000 in
/-- size(r) -/
theorem m_dSize (l : Launch) (G : gG) (H0 : Heap) (x : Nat) (ws : va_W) (puts : Nat) (N : Nat → Nat) (C : Nat → Int32 → Nat) (hDk : Dk G (fun _ => True) H0 x ws puts N C) (r : Int32) : Met l yX0_size (ws_ yX0_size cX0_size 2 (some .int)) ({ frames := 1, cells := 0, slots := 0, locals := 20 }) (PcG G [.ref x, .int r] H0 (fun _ => False)) (vp_Si (fun y => y = nI (N (r4 r)))) 0 0 (fun _ => False) := by
  refine Met.ofW (cc := cX0_size) (maxL := 2) (ret := (some .int)) (by decide) rfl ?_
  intro p e s m args below meth c s₁ B hml hv
  obtain ⟨rfl, rfl, hG⟩ := hv
  have hx := B.exec
  have hb := B.bytes
  have hr := B.returns
  have hts := atoms_spec (ws := ws_ yX0_size cX0_size 2 (some .int)) B.pre
  have hts : ∀ w ∈ lw_all, w.before _ s = true := fun w h => hts w (List.mem_cons_of_mem _ h)
  have hown : s.vm.findClass RX0 = some m.cls := findClass_of_methodNamed B.named
  have hlocks := B.notSynchronized
  have hK := hG.K
  have hS : va_S (fun _ => False) s.heap s.heap [] := va_S.rf
  have hl := lv_entry ([.ref x, .int r]) (n := 2) (Nat.le_of_ble_eq_true rfl)
  rw [lg_entry_eq]
  generalize (lg_sl ([.ref x, .int r]) ++ List.replicate (2 - (lg_sl ([.ref x, .int r])).length) Slot.unset).toArray = ls at hl ⊢
  have hl : lv_has ls 2 [(0, .ref x), (1, .int r)] := hl
  have hra := r4_and r
  have hj4 := r4_lt r
  generalize hje : r4 r = j at hra hj4 ⊢
  obtain ⟨fl, g, hp, ar, cap, f, v, rfl, hok, hC, hP, hD⟩ := hDk
  obtain ⟨a1, a2, a3, a4, a5⟩ := hok.2.2.2 j hj4
  refine lv_aload_n hx hb dX0_size_0 rfl (lv_at hl 0 rfl) ?_
  refine va_get (D := G.1) (ci := 1) (v := .ref fl) (C := RX0) (T := TX0) (N := 2) hx hb hts in_X0 hown hK hP 0 rfl rfl 0 (by decide) (hts _ q186) (fun _ h9 => h9) rfl dX0_size_1 ?_
  refine lv_iload_n hx hb dX0_size_4 rfl (lv_at hl 1 rfl) ?_
  refine lv_iconst (v := nI 3) hx hb dX0_size_5 (by decide) ?_
  refine lv_iand hx hb dX0_size_6 ?_
  refine lv_tn (nI (j)) (hra) ?_
  refine qld (y := (hp j)) hx hb hK hP 1 1 rfl rfl (hj4) (by decide) (hok.1 j hj4) dX0_size_7 ?_
  have hPc := dsk_P (j := j) hj4 hP
  refine vp_callSl (va_Run.run (va_runU (As := []) (rest := []) ⟨hx, hb, hml, hown, hts⟩ (m_hSize l G _ (hp j) (ar j) (N j) (dd j) (cV G (upq j)) (by omega) (hPc.sub [0] rfl)) (va_cwU 0 hts (lw_U (C := "DaryArrayHeap") (owner := "AbstractArrayWeakHeap") (x := ⟨"DaryArrayHeap", "size", "()J"⟩) (y := yX1_size) q378 q379 q381 q382 q5 q383) rfl rfl rfl rfl (by decide +kernel) ⟨Nat.le_of_ble_eq_true rfl, Nat.le_of_ble_eq_true rfl⟩) (PcG.v (va_recv hK hPc (ci := 0) (q0 := 0) (q := (RX3, TX3, 5)) rfl rfl) (hG.ro hS)) rfl rfl hl.1 rfl (lv_room (Nat.le_of_ble_eq_true rfl)) dX0_size_8 ⟨Nat.le_of_ble_eq_true rfl, Nat.le_of_ble_eq_true rfl⟩)) (fun r80 hr80 => ?_)
  refine lv_l2i (v := nI (N j)) hx hb dX0_size_11 (by rw [hr80]; exact lN_i _) ?_
  exact W.iret (v := nI (N j)) hx hb hr (fun t ht hW => ⟨_, rfl, rfl, ht⟩) hS.2.2 dX0_size_12
set_option maxHeartbeats 4000000 in
set_option maxRecDepth 100000 in
/-- isEmpty(r) -/
theorem m_dEmpty (l : Launch) (G : gG) (H0 : Heap) (x : Nat) (ws : va_W) (puts : Nat) (N : Nat → Nat) (C : Nat → Int32 → Nat) (hDk : Dk G (fun _ => True) H0 x ws puts N C) (r : Int32) : Met l yX0_isEmpty (ws_ yX0_isEmpty cX0_isEmpty 2 (some .boolean)) ({ frames := 1, cells := 0, slots := 0, locals := 20 }) (PcG G [.ref x, .int r] H0 (fun _ => False)) (vp_Si (fun y => y = nI (if N (r4 r) = 0 then 1 else 0))) 0 0 (fun _ => False) := by
  refine Met.ofW (cc := cX0_isEmpty) (maxL := 2) (ret := (some .boolean)) (by decide) rfl ?_
  intro p e s m args below meth c s₁ B hml hv
  obtain ⟨rfl, rfl, hG⟩ := hv
  have hx := B.exec
  have hb := B.bytes
  have hr := B.returns
  have hts := atoms_spec (ws := ws_ yX0_isEmpty cX0_isEmpty 2 (some .boolean)) B.pre
  have hts : ∀ w ∈ lw_all, w.before _ s = true := fun w h => hts w (List.mem_cons_of_mem _ h)
  have hown : s.vm.findClass RX0 = some m.cls := findClass_of_methodNamed B.named
  have hlocks := B.notSynchronized
  have hK := hG.K
  have hS : va_S (fun _ => False) s.heap s.heap [] := va_S.rf
  have hl := lv_entry ([.ref x, .int r]) (n := 2) (Nat.le_of_ble_eq_true rfl)
  rw [lg_entry_eq]
  generalize (lg_sl ([.ref x, .int r]) ++ List.replicate (2 - (lg_sl ([.ref x, .int r])).length) Slot.unset).toArray = ls at hl ⊢
  have hl : lv_has ls 2 [(0, .ref x), (1, .int r)] := hl
  have hra := r4_and r
  have hj4 := r4_lt r
  generalize hje : r4 r = j at hra hj4 ⊢
  obtain ⟨fl, g, hp, ar, cap, f, v, rfl, hok, hC, hP, hD⟩ := hDk
  obtain ⟨a1, a2, a3, a4, a5⟩ := hok.2.2.2 j hj4
  refine lv_aload_n hx hb dX0_isEmpty_0 rfl (lv_at hl 0 rfl) ?_
  refine va_get (D := G.1) (ci := 1) (v := .ref fl) (C := RX0) (T := TX0) (N := 2) hx hb hts in_X0 hown hK hP 0 rfl rfl 0 (by decide) (hts _ q186) (fun _ h9 => h9) rfl dX0_isEmpty_1 ?_
  refine lv_iload_n hx hb dX0_isEmpty_4 rfl (lv_at hl 1 rfl) ?_
  refine lv_iconst (v := nI 3) hx hb dX0_isEmpty_5 (by decide) ?_
  refine lv_iand hx hb dX0_isEmpty_6 ?_
  refine lv_tn (nI (j)) (hra) ?_
  refine qld (y := (hp j)) hx hb hK hP 1 1 rfl rfl (hj4) (by decide) (hok.1 j hj4) dX0_isEmpty_7 ?_
  have hPc := dsk_P (j := j) hj4 hP
  refine vp_callSi (va_Run.run (va_runU (As := []) (rest := []) ⟨hx, hb, hml, hown, hts⟩ (m_hEmpty l G _ (hp j) (ar j) (N j) (dd j) (cV G (upq j)) (by omega) (hPc.sub [0] rfl)) (va_cwU 0 hts (lw_U (C := "DaryArrayHeap") (owner := "AbstractArrayWeakHeap") (x := ⟨"DaryArrayHeap", "isEmpty", "()Z"⟩) (y := yX1_isEmpty) q323 q324 q326 q327 q5 q328) rfl rfl rfl rfl (by decide +kernel) ⟨Nat.le_of_ble_eq_true rfl, Nat.le_of_ble_eq_true rfl⟩) (PcG.v (va_recv hK hPc (ci := 0) (q0 := 0) (q := (RX3, TX3, 5)) rfl rfl) (hG.ro hS)) rfl rfl hl.1 rfl (lv_room (Nat.le_of_ble_eq_true rfl)) dX0_isEmpty_8 ⟨Nat.le_of_ble_eq_true rfl, Nat.le_of_ble_eq_true rfl⟩)) (fun r81 hr81 => ?_)
  rw [hr81]
  exact W.zret (v := nI (if N j = 0 then 1 else 0)) hx hb hr (by split <;> rfl) (fun t ht hW => ⟨_, rfl, rfl, ht⟩) hS.2.2 dX0_isEmpty_11
set_option maxHeartbeats 4000000 in
set_option maxRecDepth 100000 in
/-- least(r) -/
theorem m_dLeast (l : Launch) (G : gG) (H0 : Heap) (x : Nat) (ws : va_W) (puts : Nat) (N : Nat → Nat) (C : Nat → Int32 → Nat) (hDk : Dk G (fun _ => True) H0 x ws puts N C) (r : Int32) : Met l yX0_least (ws_ yX0_least cX0_least 3 (some .int)) ({ frames := 1, cells := 0, slots := 0, locals := 20 }) (PcG G [.ref x, .int r] H0 (fun _ => False)) (vp_Si (fun y => (N (r4 r) = 0 → y = -1) ∧ (N (r4 r) ≠ 0 → isMin C (r4 r) y))) 0 0 (fun _ => False) := by
  refine Met.ofW (cc := cX0_least) (maxL := 3) (ret := (some .int)) (by decide) rfl ?_
  intro p e s m args below meth c s₁ B hml hv
  obtain ⟨rfl, rfl, hG⟩ := hv
  have hx := B.exec
  have hb := B.bytes
  have hr := B.returns
  have hts := atoms_spec (ws := ws_ yX0_least cX0_least 3 (some .int)) B.pre
  have hts : ∀ w ∈ lw_all, w.before _ s = true := fun w h => hts w (List.mem_cons_of_mem _ h)
  have hown : s.vm.findClass RX0 = some m.cls := findClass_of_methodNamed B.named
  have hlocks := B.notSynchronized
  have hK := hG.K
  have hS : va_S (fun _ => False) s.heap s.heap [] := va_S.rf
  have hl := lv_entry ([.ref x, .int r]) (n := 3) (Nat.le_of_ble_eq_true rfl)
  rw [lg_entry_eq]
  generalize (lg_sl ([.ref x, .int r]) ++ List.replicate (3 - (lg_sl ([.ref x, .int r])).length) Slot.unset).toArray = ls at hl ⊢
  have hl : lv_has ls 3 [(0, .ref x), (1, .int r)] := hl
  have hra := r4_and r
  have hj4 := r4_lt r
  generalize hje : r4 r = j at hra hj4 ⊢
  obtain ⟨fl, g, hp, ar, cap, f, v, rfl, hok, hC, hP, hD⟩ := hDk
  obtain ⟨a1, a2, a3, a4, a5⟩ := hok.2.2.2 j hj4
  refine lv_aload_n hx hb dX0_least_0 rfl (lv_at hl 0 rfl) ?_
  refine va_get (D := G.1) (ci := 1) (v := .ref fl) (C := RX0) (T := TX0) (N := 2) hx hb hts in_X0 hown hK hP 0 rfl rfl 0 (by decide) (hts _ q186) (fun _ h9 => h9) rfl dX0_least_1 ?_
  refine lv_iload_n hx hb dX0_least_4 rfl (lv_at hl 1 rfl) ?_
  refine lv_iconst (v := nI 3) hx hb dX0_least_5 (by decide) ?_
  refine lv_iand hx hb dX0_least_6 ?_
  refine lv_tn (nI (j)) (hra) ?_
  refine qld (y := (hp j)) hx hb hK hP 1 1 rfl rfl (hj4) (by decide) (hok.1 j hj4) dX0_least_7 ?_
  refine lv_astore_n (lv' := [(2, .ref ((hp j))), (0, .ref x), (1, .int r)]) hx hb dX0_least_8 rfl hl (by decide) rfl (fun ls hl => ?_)
  refine lv_aload_n hx hb dX0_least_9 rfl (lv_at hl 0 rfl) ?_
  have hPc := dsk_P (j := j) hj4 hP
  refine vp_callSi (va_Run.run (va_runU (As := []) (rest := []) ⟨hx, hb, hml, hown, hts⟩ (m_hEmpty l G _ (hp j) (ar j) (N j) (dd j) (cV G (upq j)) (by omega) (hPc.sub [0] rfl)) (va_cwU 0 hts (lw_U (C := "DaryArrayHeap") (owner := "AbstractArrayWeakHeap") (x := ⟨"DaryArrayHeap", "isEmpty", "()Z"⟩) (y := yX1_isEmpty) q323 q324 q326 q327 q5 q328) rfl rfl rfl rfl (by decide +kernel) ⟨Nat.le_of_ble_eq_true rfl, Nat.le_of_ble_eq_true rfl⟩) (PcG.v (va_recv hK hPc (ci := 0) (q0 := 0) (q := (RX3, TX3, 5)) rfl rfl) (hG.ro hS)) rfl rfl hl.1 rfl (lv_room (Nat.le_of_ble_eq_true rfl)) dX0_least_10 ⟨Nat.le_of_ble_eq_true rfl, Nat.le_of_ble_eq_true rfl⟩)) (fun r82 hr82 => ?_)
  by_cases hN : N j = 0
  · rw [if_pos hN] at hr82
    refine lv_tn (nI (1)) (hr82) ?_
    refine lv_if_eq (tgt := 20) hx hb dX0_least_13 (by decide) (fun c1 => ?_) (fun c1 => ?_)
    · exact absurd c1 (by decide)
    · refine lv_iconst (v := (-1)) hx hb dX0_least_16 (by decide) ?_
      refine lv_goto (tgt := 30) hx hb dX0_least_17 (by decide) ?_
      exact W.iret (v := (-1)) hx hb hr (fun t ht hW => ⟨_, rfl, ⟨fun _ => rfl, fun z => absurd hN z⟩, ht⟩) hS.2.2 dX0_least_30
  · rw [if_neg hN] at hr82
    refine lv_tn (nI (0)) (hr82) ?_
    refine lv_if_eq (tgt := 20) hx hb dX0_least_13 (by decide) (fun c1 => ?_) (fun c1 => ?_)
    · refine lv_aload_n hx hb dX0_least_20 rfl (lv_at hl 0 rfl) ?_
      have hPc := dsk_P (j := j) hj4 hP
      refine va_csr (va_Run.run (va_runU (As := []) (rest := []) ⟨hx, hb, hml, hown, hts⟩ (m_hMin l G _ (hp j) (ar j) (cap j) (N j) (dd j) (cV G (upq j)) (f j) (v j) (by omega) a3 (by omega) a5 hPc) (va_cwU 0 hts (lw_U (C := "DaryArrayHeap") (owner := "AbstractArrayHeap") (x := ⟨"DaryArrayHeap", "findMin", "()Ljava/lang/Object;"⟩) (y := yX2_findMin) q329 q330 q332 q333 q6 q334) rfl rfl rfl rfl (by decide +kernel) ⟨Nat.le_of_ble_eq_true rfl, Nat.le_of_ble_eq_true rfl⟩) (PcG.v (va_recv hK hPc (ci := 0) (q0 := 0) (q := (RX3, TX3, 5)) rfl rfl) (hG.ro hS)) rfl rfl hl.1 rfl (lv_room (Nat.le_of_ble_eq_true rfl)) dX0_least_21 ⟨Nat.le_of_ble_eq_true rfl, Nat.le_of_ble_eq_true rfl⟩)) (fun y83 hy83 => ?_)
      refine va_castS (nm := "java/lang/Integer") hx hb hown (hts _ q266) (hK.1 3 (RJ6, TJ6, 1) rfl).2 (bx.recv hK hy83) dX0_least_24 ?_
      refine vp_callSi (va_Run.run (va_runV (As := []) (rest := []) ⟨hx, hb, hml, hown, hts⟩ (m_intV l G _ y83 (v j 1) hy83) (cwV 0 hts (lw_V q267 q268 q269 q15 q270) rfl rfl rfl (by decide +kernel) ⟨Nat.le_of_ble_eq_true rfl, Nat.le_of_ble_eq_true rfl⟩) (PcG.v (bx.recv hK hy83) (hG.ro hS)) rfl rfl hl.1 rfl (lv_room (Nat.le_of_ble_eq_true rfl)) dX0_least_27 ⟨Nat.le_of_ble_eq_true rfl, Nat.le_of_ble_eq_true rfl⟩)) (fun r84 hr84 => ?_)
      rw [hr84]
      exact W.iret (v := v j 1) hx hb hr (fun t ht hW => ⟨_, rfl, ⟨fun z => absurd z hN, fun _ => isMin_of (hC j hj4) (by omega) a4⟩, ht⟩) hS.2.2 dX0_least_30
    · exact absurd rfl c1
set_option maxHeartbeats 4000000 in
set_option maxRecDepth 100000 in
/-- put(r, key) -/
theorem m_dPut (l : Launch) (G : gG) (H0 : Heap) (x : Nat) (ws : va_W) (puts : Nat) (N : Nat → Nat) (C : Nat → Int32 → Nat) (hDk : Dk G (fun _ => True) H0 x ws puts N C) (r key : Int32) : Met l yX0_put (ws_ yX0_put cX0_put 3 (some .boolean)) ({ frames := 5, cells := 2, slots := 130, locals := 110 }) (PcG G [.ref x, .int r, .int key] H0 (va_A ws H0.size)) (va_Qi (fun (y : Int32) (u : va_W × Nat × (Nat → Nat) × (Nat → Int32 → Nat)) => (puts < 64 → y = 1 ∧ u.2 = (puts + 1, va_up N (r4 r) (N (r4 r) + 1), cAdd C (r4 r) (key &&& 65535))) ∧ (¬ puts < 64 → y = 0 ∧ u.2 = (puts, N, C))) (fun u t => Dk G (va_A ws H0.size) t.heap x u.1 u.2.1 u.2.2.1 u.2.2.2) (va_A ws H0.size)) 2 130 (va_A ws H0.size) := by
  refine Met.ofW (cc := cX0_put) (maxL := 3) (ret := (some .boolean)) (by decide) rfl ?_
  intro p e s m args below meth c s₁ B hml hv
  obtain ⟨rfl, rfl, hG⟩ := hv
  have hx := B.exec
  have hb := B.bytes
  have hr := B.returns
  have hts := atoms_spec (ws := ws_ yX0_put cX0_put 3 (some .boolean)) B.pre
  have hts : ∀ w ∈ lw_all, w.before _ s = true := fun w h => hts w (List.mem_cons_of_mem _ h)
  have hown : s.vm.findClass RX0 = some m.cls := findClass_of_methodNamed B.named
  have hlocks := B.notSynchronized
  have hK := hG.K
  have hbk : ∀ (H : Heap) (locs : List Loc), va_S (va_A ws s.heap.size) s.heap H locs → bK G s.heap H := fun H locs h => bK.of hK hDk.P hDk.nI h.2.1
  have hDk := hDk.wk (hDk.D.self (sz := s.heap.size))
  generalize hAe : va_A ws s.heap.size = A at hDk hG hbk ⊢
  have hA : ∀ q : Nat, s.heap.size ≤ q → A q := fun q h => by rw [← hAe]; exact Or.inr h
  have hS : va_S A s.heap s.heap [] := va_S.rf
  have hl := lv_entry ([.ref x, .int r, .int key]) (n := 3) (Nat.le_of_ble_eq_true rfl)
  rw [lg_entry_eq]
  generalize (lg_sl ([.ref x, .int r, .int key]) ++ List.replicate (3 - (lg_sl ([.ref x, .int r, .int key])).length) Slot.unset).toArray = ls at hl ⊢
  have hl : lv_has ls 3 [(0, .ref x), (1, .int r), (2, .int key)] := hl
  have hra := r4_and r
  have hj4 := r4_lt r
  generalize hje : r4 r = j at hra hj4 ⊢
  obtain ⟨ws0, hDk0⟩ : ∃ w9 : va_W, Dk G A s.heap x w9 puts N C := ⟨_, hDk⟩
  obtain ⟨fl, g, hp, ar, cap, f, v, rfl, hok, hC, hP, hD⟩ := hDk
  obtain ⟨a1, a2, a3, a4, a5⟩ := hok.2.2.2 j hj4
  have hsum := hok.2.2.1
  have hle := le_sum (n := N) hj4
  have hput := hok.2.1
  refine lv_aload_n hx hb dX0_put_0 rfl (lv_at hl 0 rfl) ?_
  refine va_get (D := G.1) (ci := 1) (v := .int (nI puts)) (C := RX0) (T := TX0) (N := 2) hx hb hts in_X0 hown hK hP 0 rfl rfl 1 (by decide) (hts _ q187) (fun _ h9 => h9) rfl dX0_put_1 ?_
  refine lv_bipush (v := nI 64) hx hb dX0_put_4 (by decide) ?_
  refine bn_lt (tgt := 11) hx hb dX0_put_6 (by decide) (by omega) (by omega) (fun c1 => ?_) (fun c1 => ?_)
  · refine lv_aload_n hx hb dX0_put_11 rfl (lv_at hl 0 rfl) ?_
    refine lv_dup hx hb dX0_put_12 rfl ?_
    refine va_get (D := G.1) (ci := 1) (v := .int (nI puts)) (C := RX0) (T := TX0) (N := 2) hx hb hts in_X0 hown hK hP 0 rfl rfl 1 (by decide) (hts _ q187) (fun _ h9 => h9) rfl dX0_put_13 ?_
    refine lv_iconst (v := nI 1) hx hb dX0_put_16 (by decide) ?_
    refine lv_iadd hx hb dX0_put_17 ?_
    refine lv_tn (nI (puts + 1)) (nI_add _ _) ?_
    refine va_put (D := G.1) (ci := 1) (v := .int (nI (puts + 1))) (ty := .int) (C := RX0) (T := TX0) (N := 2) hx hb hts in_X0 tyX0 tyX0_ok nmX0 hown hK hP hD hS 0 rfl rfl 1 (by decide) (hts _ q187) (fun _ h9 => h9) rfl (by decide +kernel) rfl rfl (Nat.le_of_ble_eq_true rfl) dX0_put_18 (fun H85 locs hP hD hS => ?_)
    have hP : va_P G.1 vwCl ((x, .inr (1, [.ref fl, .int (nI (puts + 1))])) :: (fl, .inl (G.2.1 1, qA (4) (g))) :: hps G hp ar cap N f) H85 := hP
    have hD : va_D A ((x, .inr (1, [.ref fl, .int (nI (puts + 1))])) :: (fl, .inl (G.2.1 1, qA (4) (g))) :: hps G hp ar cap N f) := hD
    refine lv_aload_n hx hb dX0_put_21 rfl (lv_at hl 0 rfl) ?_
    refine va_get (D := G.1) (ci := 1) (v := .ref fl) (C := RX0) (T := TX0) (N := 2) hx hb hts in_X0 hown hK hP 0 rfl rfl 0 (by decide) (hts _ q186) (fun _ h9 => h9) rfl dX0_put_22 ?_
    refine lv_iload_n hx hb dX0_put_25 rfl (lv_at hl 1 rfl) ?_
    refine lv_iconst (v := nI 3) hx hb dX0_put_26 (by decide) ?_
    refine lv_iand hx hb dX0_put_27 ?_
    refine lv_tn (nI (j)) (hra) ?_
    refine qld (y := (hp j)) hx hb hK hP 1 1 rfl rfl (hj4) (by decide) (hok.1 j hj4) dX0_put_28 ?_
    obtain ⟨k, hk, ek⟩ := and_16 key
    refine lv_iload_n hx hb dX0_put_29 rfl (lv_at hl 2 rfl) ?_
    refine lv_ldc (v := 65535) hx hb hown (hts _ q197) dX0_put_30 ?_
    refine lv_iand hx hb dX0_put_32 ?_
    refine lv_tn (nI (k)) (ek) ?_
    have hFc := va_free (wc := []) hD hS hA [] rfl
    refine va_callr (va_runS (As := [.int (nI k)]) (rest := [.ref ((hp j))]) ⟨hx, hb, hml, hown, hts⟩ (m_valO l G _ k hk) (va_cwS 1 hts (lw_S q198 q199 q15 q200) rfl rfl rfl (by decide +kernel) ⟨Nat.le_of_ble_eq_true rfl, Nat.le_of_ble_eq_true rfl⟩) (PcG.s (hG.sub hS hFc)) rfl rfl hl.1 rfl (lv_room (Nat.le_of_ble_eq_true rfl)) dX0_put_33 ⟨Nat.le_of_ble_eq_true rfl, Nat.le_of_ble_eq_true rfl⟩) hS (fun q _ h => hFc q h) hFc (fun u9 yH86 t H86 locs ht hvm hw9 hyH86 hz1 hk1 hS => ?_)
    try dsimp only at hyH86
    rw [ht] at hyH86
    have hP := keep0 hP hk1
    have hb2 : bK G H85 H86 := bK0 hk1
    have hPc := dsk_P (j := j) hj4 hP
    have hDc := dsk_D (j := j) hj4 hD
    have hFc := freeL hDc hS hA
    refine va_callv (va_runU (As := [.ref yH86]) (rest := []) ⟨hx, hb, hml, hown, hts⟩ (m_ins l G _ (hp j) (ar j) (cap j) (N j) (dd j) (upq j) (f j) (v j) (dd_or j) yH86 (nI k) a3 (by omega) a1 a2 hyH86 a4 (a5.kept (hbk _ _ hS)) hPc (hDc.weaken (fun _ _ _ _ => trivial))) (va_cwU 1 hts (lw_U (C := "DaryArrayHeap") (owner := "AbstractArrayHeap") (x := ⟨"DaryArrayHeap", "insert", "(Ljava/lang/Object;)V"⟩) (y := yX2_insert) q218 q219 q221 q222 q6 q223) rfl rfl rfl rfl (by decide +kernel) ⟨Nat.le_of_ble_eq_true rfl, Nat.le_of_ble_eq_true rfl⟩) (PcG.v (va_recv hK hPc (ci := 0) (q0 := 0) (q := (RX3, TX3, 5)) rfl rfl) (hG.sub hS hFc)) rfl rfl hl.1 rfl (lv_room (Nat.le_of_ble_eq_true rfl)) dX0_put_36 ⟨Nat.le_of_ble_eq_true rfl, Nat.le_of_ble_eq_true rfl⟩) hS (fun q _ h => hFc q h) hFc (fun u t H87 locs ht hvm hw hB hz1 hk1 hS => ?_)
    try dsimp only at hB
    try dsimp only at hw
    rw [ht] at hB
    obtain ⟨hP1, hD1, hb9⟩ := hB
    obtain ⟨hP, hD⟩ := dsk_join hj4 hP hD hk1 hFc hP1 hD1
    refine lv_iconst (v := nI 1) hx hb dX0_put_39 (by decide) ?_
    have hsu := sum_up (n := N) (n' := N j + 1) hj4
    obtain ⟨w9, hfin⟩ : ∃ w9 : va_W, Dk G A H87 x w9 (puts + 1) (va_up N j (N j + 1)) (cAdd C j (key &&& 65535)) := ⟨_, fl, g, hp, _, _, _, _, rfl, hok.upd (hbk _ _ hS) (by omega) (by omega) hw.1 hw.2.1 hw.2.2.1 hw.2.2.2.2 hb9, by rw [ek]; exact cAdd_ok hC hw.2.2.2.1, hP, hD⟩
    exact W.zret (v := nI 1) hx hb hr rfl (fun t ht hW => ⟨⟨nI 1, (w9, puts + 1, va_up N j (N j + 1), cAdd C j (key &&& 65535)), rfl, ⟨fun _ => ⟨rfl, rfl⟩, fun z => absurd c1 z⟩, by dsimp only; rw [ht]; exact hfin⟩, hS.F ht⟩) hS.2.2 dX0_put_40
  · refine lv_iconst (v := nI 0) hx hb dX0_put_9 (by decide) ?_
    refine W.widen (k := 2) (n := 130) (by decide) (by decide) ?_
    exact W.zret (v := nI 0) hx hb hr rfl (fun t ht hW => ⟨⟨nI 0, (ws0, puts, N, C), rfl, ⟨fun z => absurd z (by omega), fun _ => ⟨rfl, rfl⟩⟩, by dsimp only; rw [ht]; exact hDk0⟩, hS.F ht⟩) hS.2.2 dX0_put_10
set_option maxHeartbeats 4000000 in
set_option maxRecDepth 100000 in
/-- takeLeast(r) -/
theorem m_dTake (l : Launch) (G : gG) (H0 : Heap) (x : Nat) (ws : va_W) (puts : Nat) (N : Nat → Nat) (C : Nat → Int32 → Nat) (hDk : Dk G (fun _ => True) H0 x ws puts N C) (r : Int32) : Met l yX0_takeLeast (ws_ yX0_takeLeast cX0_takeLeast 3 (some .int)) ({ frames := 5, cells := 1, slots := 129, locals := 113 }) (PcG G [.ref x, .int r] H0 (va_A ws H0.size)) (va_Qi (fun (y : Int32) (u : va_W × (Nat → Nat) × (Nat → Int32 → Nat)) => (N (r4 r) = 0 → y = -1 ∧ u.2 = (N, C)) ∧ (N (r4 r) ≠ 0 → isMin C (r4 r) y ∧ u.2 = (va_up N (r4 r) (N (r4 r) - 1), cSub C (r4 r) y))) (fun u t => Dk G (va_A ws H0.size) t.heap x u.1 puts u.2.1 u.2.2) (va_A ws H0.size)) 1 129 (va_A ws H0.size) := by
  refine Met.ofW (cc := cX0_takeLeast) (maxL := 3) (ret := (some .int)) (by decide) rfl ?_
  intro p e s m args below meth c s₁ B hml hv
  obtain ⟨rfl, rfl, hG⟩ := hv
  have hx := B.exec
  have hb := B.bytes
  have hr := B.returns
  have hts := atoms_spec (ws := ws_ yX0_takeLeast cX0_takeLeast 3 (some .int)) B.pre
  have hts : ∀ w ∈ lw_all, w.before _ s = true := fun w h => hts w (List.mem_cons_of_mem _ h)
  have hown : s.vm.findClass RX0 = some m.cls := findClass_of_methodNamed B.named
  have hlocks := B.notSynchronized
  have hK := hG.K
  have hbk : ∀ (H : Heap) (locs : List Loc), va_S (va_A ws s.heap.size) s.heap H locs → bK G s.heap H := fun H locs h => bK.of hK hDk.P hDk.nI h.2.1
  have hDk := hDk.wk (hDk.D.self (sz := s.heap.size))
  generalize hAe : va_A ws s.heap.size = A at hDk hG hbk ⊢
  have hA : ∀ q : Nat, s.heap.size ≤ q → A q := fun q h => by rw [← hAe]; exact Or.inr h
  have hS : va_S A s.heap s.heap [] := va_S.rf
  have hl := lv_entry ([.ref x, .int r]) (n := 3) (Nat.le_of_ble_eq_true rfl)
  rw [lg_entry_eq]
  generalize (lg_sl ([.ref x, .int r]) ++ List.replicate (3 - (lg_sl ([.ref x, .int r])).length) Slot.unset).toArray = ls at hl ⊢
  have hl : lv_has ls 3 [(0, .ref x), (1, .int r)] := hl
  have hra := r4_and r
  have hj4 := r4_lt r
  generalize hje : r4 r = j at hra hj4 ⊢
  obtain ⟨ws0, hDk0⟩ : ∃ w9 : va_W, Dk G A s.heap x w9 puts N C := ⟨_, hDk⟩
  obtain ⟨fl, g, hp, ar, cap, f, v, rfl, hok, hC, hP, hD⟩ := hDk
  obtain ⟨a1, a2, a3, a4, a5⟩ := hok.2.2.2 j hj4
  have hsum := hok.2.2.1
  have hle := le_sum (n := N) hj4
  have hput := hok.2.1
  refine lv_aload_n hx hb dX0_takeLeast_0 rfl (lv_at hl 0 rfl) ?_
  refine va_get (D := G.1) (ci := 1) (v := .ref fl) (C := RX0) (T := TX0) (N := 2) hx hb hts in_X0 hown hK hP 0 rfl rfl 0 (by decide) (hts _ q186) (fun _ h9 => h9) rfl dX0_takeLeast_1 ?_
  refine lv_iload_n hx hb dX0_takeLeast_4 rfl (lv_at hl 1 rfl) ?_
  refine lv_iconst (v := nI 3) hx hb dX0_takeLeast_5 (by decide) ?_
  refine lv_iand hx hb dX0_takeLeast_6 ?_
  refine lv_tn (nI (j)) (hra) ?_
  refine qld (y := (hp j)) hx hb hK hP 1 1 rfl rfl (hj4) (by decide) (hok.1 j hj4) dX0_takeLeast_7 ?_
  refine lv_astore_n (lv' := [(2, .ref ((hp j))), (0, .ref x), (1, .int r)]) hx hb dX0_takeLeast_8 rfl hl (by decide) rfl (fun ls hl => ?_)
  refine lv_aload_n hx hb dX0_takeLeast_9 rfl (lv_at hl 0 rfl) ?_
  have hPc := dsk_P (j := j) hj4 hP
  refine vp_callSi (va_Run.run (va_runU (As := []) (rest := []) ⟨hx, hb, hml, hown, hts⟩ (m_hEmpty l G _ (hp j) (ar j) (N j) (dd j) (cV G (upq j)) (by omega) (hPc.sub [0] rfl)) (va_cwU 0 hts (lw_U (C := "DaryArrayHeap") (owner := "AbstractArrayWeakHeap") (x := ⟨"DaryArrayHeap", "isEmpty", "()Z"⟩) (y := yX1_isEmpty) q323 q324 q326 q327 q5 q328) rfl rfl rfl rfl (by decide +kernel) ⟨Nat.le_of_ble_eq_true rfl, Nat.le_of_ble_eq_true rfl⟩) (PcG.v (va_recv hK hPc (ci := 0) (q0 := 0) (q := (RX3, TX3, 5)) rfl rfl) (hG.ro hS)) rfl rfl hl.1 rfl (lv_room (Nat.le_of_ble_eq_true rfl)) dX0_takeLeast_10 ⟨Nat.le_of_ble_eq_true rfl, Nat.le_of_ble_eq_true rfl⟩)) (fun r88 hr88 => ?_)
  by_cases hN : N j = 0
  · rw [if_pos hN] at hr88
    refine lv_tn (nI (1)) (hr88) ?_
    refine lv_if_eq (tgt := 18) hx hb dX0_takeLeast_13 (by decide) (fun c1 => ?_) (fun c1 => ?_)
    · exact absurd c1 (by decide)
    · refine lv_iconst (v := (-1)) hx hb dX0_takeLeast_16 (by decide) ?_
      refine W.widen (k := 1) (n := 129) (by decide) (by decide) ?_
      exact W.iret (v := (-1)) hx hb hr (fun t ht hW => ⟨⟨-1, (ws0, N, C), rfl, ⟨fun _ => ⟨rfl, rfl⟩, fun z => absurd hN z⟩, by dsimp only; rw [ht]; exact hDk0⟩, hS.F ht⟩) hS.2.2 dX0_takeLeast_17
  · rw [if_neg hN] at hr88
    refine lv_tn (nI (0)) (hr88) ?_
    refine lv_if_eq (tgt := 18) hx hb dX0_takeLeast_13 (by decide) (fun c1 => ?_) (fun c1 => ?_)
    · refine lv_aload_n hx hb dX0_takeLeast_18 rfl (lv_at hl 0 rfl) ?_
      have hPc := dsk_P (j := j) hj4 hP
      have hDc := dsk_D (j := j) hj4 hD
      have hFc := freeL hDc hS hA
      refine va_callr (va_runU (As := []) (rest := []) ⟨hx, hb, hml, hown, hts⟩ (m_del1 l G _ (hp j) (ar j) (cap j) (N j) (dd j) (upq j) (f j) (v j) (dd_or j) (by omega) a3 a1 a2 a4 (a5.kept (hbk _ _ hS)) hPc (hDc.weaken (fun _ _ _ _ => trivial))) (va_cwU 0 hts (lw_U (C := "DaryArrayHeap") (owner := "AbstractArrayHeap") (x := ⟨"DaryArrayHeap", "deleteMin", "()Ljava/lang/Object;"⟩) (y := yX2_deleteMin) q360 q361 q363 q364 q6 q365) rfl rfl rfl rfl (by decide +kernel) ⟨Nat.le_of_ble_eq_true rfl, Nat.le_of_ble_eq_true rfl⟩) (PcG.v (va_recv hK hPc (ci := 0) (q0 := 0) (q := (RX3, TX3, 5)) rfl rfl) (hG.sub hS hFc)) rfl rfl hl.1 rfl (lv_room (Nat.le_of_ble_eq_true rfl)) dX0_takeLeast_19 ⟨Nat.le_of_ble_eq_true rfl, Nat.le_of_ble_eq_true rfl⟩) hS (fun q _ h => hFc q h) hFc (fun u ra t H89 locs ht hvm hw hB hz1 hk1 hS => ?_)
      try dsimp only at hB
      try dsimp only at hw
      rw [ht] at hB
      obtain ⟨hy1, hP1, hD1, hb9⟩ := hB
      obtain ⟨hP, hD⟩ := dsk_join hj4 hP hD hk1 hFc hP1 hD1
      refine va_castS (nm := "java/lang/Integer") hx hb hown (hts _ q266) (hK.1 3 (RJ6, TJ6, 1) rfl).2 (bx.recv hK hy1) dX0_takeLeast_22 ?_
      refine vp_callSi (va_Run.run (va_runV (As := []) (rest := []) ⟨hx, hb, hml, hown, hts⟩ (m_intV l G _ ra (v j 1) hy1) (cwV 0 hts (lw_V q267 q268 q269 q15 q270) rfl rfl rfl (by decide +kernel) ⟨Nat.le_of_ble_eq_true rfl, Nat.le_of_ble_eq_true rfl⟩) (PcG.v (bx.recv hK hy1) (hG.ro hS)) rfl rfl hl.1 rfl (lv_room (Nat.le_of_ble_eq_true rfl)) dX0_takeLeast_25 ⟨Nat.le_of_ble_eq_true rfl, Nat.le_of_ble_eq_true rfl⟩)) (fun r90 hr90 => ?_)
      rw [hr90]
      have hsu := sum_up (n := N) (n' := N j - 1) hj4
      obtain ⟨w9, hfin⟩ : ∃ w9 : va_W, Dk G A H89 x w9 puts (va_up N j (N j - 1)) (cSub C j (v j 1)) := ⟨_, fl, g, hp, _, _, _, _, rfl, hok.upd (hbk _ _ hS) (by omega) hput hw.1 hw.2.1 hw.2.2.1 hw.2.2.2.2 hb9, cSub_ok hC hw.2.2.2.1, hP, hD⟩
      exact W.iret (v := v j 1) hx hb hr (fun t ht hW => ⟨⟨v j 1, (w9, va_up N j (N j - 1), cSub C j (v j 1)), rfl, ⟨fun z => absurd z hN, fun _ => ⟨isMin_of (hC j hj4) (by omega) a4, rfl⟩⟩, by dsimp only; rw [ht]; exact hfin⟩, hS.F ht⟩) hS.2.2 dX0_takeLeast_28
    · exact absurd rfl c1
set_option maxHeartbeats 4000000 in
set_option maxRecDepth 100000 in
/-- clear(r) -/
theorem m_dClear (l : Launch) (G : gG) (H0 : Heap) (x : Nat) (ws : va_W) (puts : Nat) (N : Nat → Nat) (C : Nat → Int32 → Nat) (hDk : Dk G (fun _ => True) H0 x ws puts N C) (r : Int32) : Met l yX0_clear (ws_ yX0_clear cX0_clear 2 none) ({ frames := 1, cells := 0, slots := 0, locals := 20 }) (PcG G [.ref x, .int r] H0 (va_A ws H0.size)) (va_Qv (fun _ : va_W => True) (fun u t => Dk G (va_A ws H0.size) t.heap x u puts (va_up N (r4 r) 0) (cClr C (r4 r))) (va_A ws H0.size)) 0 0 (va_A ws H0.size) := by
  refine Met.ofW (cc := cX0_clear) (maxL := 2) (ret := none) (by decide) rfl ?_
  intro p e s m args below meth c s₁ B hml hv
  obtain ⟨rfl, rfl, hG⟩ := hv
  have hx := B.exec
  have hb := B.bytes
  have hr := B.returns
  have hts := atoms_spec (ws := ws_ yX0_clear cX0_clear 2 none) B.pre
  have hts : ∀ w ∈ lw_all, w.before _ s = true := fun w h => hts w (List.mem_cons_of_mem _ h)
  have hown : s.vm.findClass RX0 = some m.cls := findClass_of_methodNamed B.named
  have hlocks := B.notSynchronized
  have hK := hG.K
  have hbk : ∀ (H : Heap) (locs : List Loc), va_S (va_A ws s.heap.size) s.heap H locs → bK G s.heap H := fun H locs h => bK.of hK hDk.P hDk.nI h.2.1
  have hDk := hDk.wk (hDk.D.self (sz := s.heap.size))
  generalize hAe : va_A ws s.heap.size = A at hDk hG hbk ⊢
  have hA : ∀ q : Nat, s.heap.size ≤ q → A q := fun q h => by rw [← hAe]; exact Or.inr h
  have hS : va_S A s.heap s.heap [] := va_S.rf
  have hl := lv_entry ([.ref x, .int r]) (n := 2) (Nat.le_of_ble_eq_true rfl)
  rw [lg_entry_eq]
  generalize (lg_sl ([.ref x, .int r]) ++ List.replicate (2 - (lg_sl ([.ref x, .int r])).length) Slot.unset).toArray = ls at hl ⊢
  have hl : lv_has ls 2 [(0, .ref x), (1, .int r)] := hl
  have hra := r4_and r
  have hj4 := r4_lt r
  generalize hje : r4 r = j at hra hj4 ⊢
  obtain ⟨ws0, hDk0⟩ : ∃ w9 : va_W, Dk G A s.heap x w9 puts N C := ⟨_, hDk⟩
  obtain ⟨fl, g, hp, ar, cap, f, v, rfl, hok, hC, hP, hD⟩ := hDk
  obtain ⟨a1, a2, a3, a4, a5⟩ := hok.2.2.2 j hj4
  have hsum := hok.2.2.1
  have hput := hok.2.1
  refine lv_aload_n hx hb dX0_clear_0 rfl (lv_at hl 0 rfl) ?_
  refine va_get (D := G.1) (ci := 1) (v := .ref fl) (C := RX0) (T := TX0) (N := 2) hx hb hts in_X0 hown hK hP 0 rfl rfl 0 (by decide) (hts _ q186) (fun _ h9 => h9) rfl dX0_clear_1 ?_
  refine lv_iload_n hx hb dX0_clear_4 rfl (lv_at hl 1 rfl) ?_
  refine lv_iconst (v := nI 3) hx hb dX0_clear_5 (by decide) ?_
  refine lv_iand hx hb dX0_clear_6 ?_
  refine lv_tn (nI (j)) (hra) ?_
  refine qld (y := (hp j)) hx hb hK hP 1 1 rfl rfl (hj4) (by decide) (hok.1 j hj4) dX0_clear_7 ?_
  have hPc := dsk_P (j := j) hj4 hP
  have hDc := dsk_D (j := j) hj4 hD
  have hFc := freeL hDc hS hA
  refine va_callv (va_runU (As := []) (rest := []) ⟨hx, hb, hml, hown, hts⟩ (m_hClear l G _ (hp j) (ar j) (cap j) (N j) (dd j) (cV G (upq j)) (f j) hPc (hDc.weaken (fun _ _ _ _ => trivial))) (va_cwU 0 hts (lw_U (C := "DaryArrayHeap") (owner := "AbstractArrayWeakHeap") (x := ⟨"DaryArrayHeap", "clear", "()V"⟩) (y := yX1_clear) q392 q393 q395 q396 q5 q397) rfl rfl rfl rfl (by decide +kernel) ⟨Nat.le_of_ble_eq_true rfl, Nat.le_of_ble_eq_true rfl⟩) (PcG.v (va_recv hK hPc (ci := 0) (q0 := 0) (q := (RX3, TX3, 5)) rfl rfl) (hG.sub hS hFc)) rfl rfl hl.1 rfl (lv_room (Nat.le_of_ble_eq_true rfl)) dX0_clear_8 ⟨Nat.le_of_ble_eq_true rfl, Nat.le_of_ble_eq_true rfl⟩) hS (fun q _ h => hFc q h) hFc (fun u t H91 locs ht hvm hw hB hz1 hk1 hS => ?_)
  try dsimp only at hB
  try dsimp only at hw
  rw [ht] at hB
  obtain ⟨hP1, hD1⟩ := hB
  obtain ⟨hP, hD⟩ := dsk_join hj4 hP hD hk1 hFc hP1 hD1
  have hsu := sum_up (n := N) (n' := 0) hj4
  obtain ⟨w9, hfin⟩ : ∃ w9 : va_W, Dk G A H91 x w9 puts (va_up N j 0) (cClr C j) := ⟨_, fl, g, hp, _, _, _, _, rfl, hok.upd (v' := v j) (hbk _ _ hS) (by omega) hput a1 a2 (Nat.zero_le _) (fun i h1 h2 => by omega) (fun j h1 h2 => by omega), cClr_ok hC, hP, hD⟩
  exact W.vret hx hb hr (fun t ht hW => ⟨⟨w9, rfl, trivial, by dsimp only; rw [ht]; exact hfin⟩, hS.F ht⟩) hS.2.2 dX0_clear_11
end
section
/-! THE DESK: pour, four, and how it is made -/
set_option maxRecDepth 100000
def f4 {α : Type} (a b c d : α) : Nat → α := fun i => match i with
  | 0 => a
  | 1 => b
  | 2 => c
  | _ => d
def cFour (C : Nat → Int32 → Nat) (j : Nat) (a b c d : Int32) : Nat → Int32 → Nat := fun i z => if i = j then (if a = z then 1 else 0) + (if b = z then 1 else 0) + (if c = z then 1 else 0) + (if d = z then 1 else 0) else C i z
theorem cFour_ok {C : Nat → Int32 → Nat} {N : Nat → Nat} {v : Nat → Nat → Int32} {j : Nat} {a b c d : Int32} {v' : Nat → Int32} (hC : ∀ i : Nat, i < 4 → ∀ z : Int32, C i z = cnt (v i) (N i) z) (h : ∀ z : Int32, cnt v' 4 z = cnt (fun j => f4 a b c d (j - 1)) 4 z) : ∀ i : Nat, i < 4 → ∀ z : Int32, cFour C j a b c d i z = cnt (va_up v j v' i) (va_up N j 4 i) z := by
  intro i hi z
  unfold cFour
  by_cases hij : i = j
  · subst hij
    rw [va_up_self, va_up_self, h z, if_pos rfl]
    show _ = 0 + (if a = z then 1 else 0) + (if b = z then 1 else 0) + (if c = z then 1 else 0) + (if d = z then 1 else 0)
    omega
  · rw [va_up_ne _ _ hij, va_up_ne _ _ hij, hC i hi z, if_neg hij]
/-- a new heap takes the place of the j-th -/
theorem dsk_new {G : gG} {hp ar cap n : Nat → Nat} {f : Nat → Nat → Option Nat} {c0 c1 : Nat × va_E} {A : Nat → Prop} {H : Heap} {j h' a' cap' n' : Nat} {f' : Nat → Option Nat} (hj : j < 4) (hP : va_P G.1 vwCl ((h', .inr (0, [cV G (upq j), .ref a', .int (nI n'), .int (nI 16), .int (nI (dd j))])) :: (a', .inl (G.2.1 0, qA (cap' + 1) f')) :: c0 :: c1 :: hps G hp ar cap n f) H) (hD : va_D A ((h', .inr (0, [cV G (upq j), .ref a', .int (nI n'), .int (nI 16), .int (nI (dd j))])) :: (a', .inl (G.2.1 0, qA (cap' + 1) f')) :: c0 :: c1 :: hps G hp ar cap n f)) :
    va_P G.1 vwCl (c0 :: c1 :: hps G (va_up hp j h') (va_up ar j a') (va_up cap j cap') (va_up n j n') (va_up f j f')) H ∧ va_D A (c0 :: c1 :: hps G (va_up hp j h') (va_up ar j a') (va_up cap j cap') (va_up n j n') (va_up f j f')) := by
  match j, hj with
  | 0, _ => exact ⟨hP.sub [2, 3, 0, 1, 6, 7, 8, 9, 10, 11] rfl, hD.sub [2, 3, 0, 1, 6, 7, 8, 9, 10, 11] (by decide) rfl⟩
  | 1, _ => exact ⟨hP.sub [2, 3, 4, 5, 0, 1, 8, 9, 10, 11] rfl, hD.sub [2, 3, 4, 5, 0, 1, 8, 9, 10, 11] (by decide) rfl⟩
  | 2, _ => exact ⟨hP.sub [2, 3, 4, 5, 6, 7, 0, 1, 10, 11] rfl, hD.sub [2, 3, 4, 5, 6, 7, 0, 1, 10, 11] (by decide) rfl⟩
  | 3, _ => exact ⟨hP.sub [2, 3, 4, 5, 6, 7, 8, 9, 0, 1] rfl, hD.sub [2, 3, 4, 5, 6, 7, 8, 9, 0, 1] (by decide) rfl⟩
set_option maxHeartbeats 4000000 in
set_option maxRecDepth 100000 in
/-- pour(r, q) -/
theorem m_dPour (l : Launch) (G : gG) (H0 : Heap) (x : Nat) (ws : va_W) (puts : Nat) (N : Nat → Nat) (C : Nat → Int32 → Nat) (hDk : Dk G (fun _ => True) H0 x ws puts N C) (r q : Int32) : Met l yX0_pour (ws_ yX0_pour cX0_pour 6 (some .int)) ({ frames := 5, cells := 128, slots := 16512, locals := 113 }) (PcG G [.ref x, .int r, .int q] H0 (va_A ws H0.size)) (va_Qi (fun (y : Int32) (u : va_W × (Nat → Nat) × (Nat → Int32 → Nat)) => ((r4 r) = (r4 q) → y = -1 ∧ u.2 = (N, C)) ∧ ((r4 r) ≠ (r4 q) → y = nI (N (r4 q)) ∧ u.2 = (nPour N (r4 r) (r4 q), cPour C (r4 r) (r4 q)))) (fun u t => Dk G (va_A ws H0.size) t.heap x u.1 puts u.2.1 u.2.2) (va_A ws H0.size)) 128 16512 (va_A ws H0.size) := by
  refine Met.ofW (cc := cX0_pour) (maxL := 6) (ret := (some .int)) (by decide) rfl ?_
  intro p e s m args below meth c s₁ B hml hv
  obtain ⟨rfl, rfl, hG⟩ := hv
  have hx := B.exec
  have hb := B.bytes
  have hr := B.returns
  have hts := atoms_spec (ws := ws_ yX0_pour cX0_pour 6 (some .int)) B.pre
  have hts : ∀ w ∈ lw_all, w.before _ s = true := fun w h => hts w (List.mem_cons_of_mem _ h)
  have hown : s.vm.findClass RX0 = some m.cls := findClass_of_methodNamed B.named
  have hlocks := B.notSynchronized
  have hK := hG.K
  have hbk : ∀ (H : Heap) (locs : List Loc), va_S (va_A ws s.heap.size) s.heap H locs → bK G s.heap H := fun H locs h => bK.of hK hDk.P hDk.nI h.2.1
  have hDk := hDk.wk (hDk.D.self (sz := s.heap.size))
  generalize hAe : va_A ws s.heap.size = A at hDk hG hbk ⊢
  have hA : ∀ q : Nat, s.heap.size ≤ q → A q := fun q h => by rw [← hAe]; exact Or.inr h
  have hS : va_S A s.heap s.heap [] := va_S.rf
  have hl := lv_entry ([.ref x, .int r, .int q]) (n := 6) (Nat.le_of_ble_eq_true rfl)
  rw [lg_entry_eq]
  generalize (lg_sl ([.ref x, .int r, .int q]) ++ List.replicate (6 - (lg_sl ([.ref x, .int r, .int q])).length) Slot.unset).toArray = ls at hl ⊢
  have hl : lv_has ls 6 [(0, .ref x), (1, .int r), (2, .int q)] := hl
  have hra := r4_and r
  have ha4 := r4_lt r
  generalize hae : r4 r = a at hra ha4 ⊢
  have hrb := r4_and q
  have hb4 := r4_lt q
  generalize hbe : r4 q = b at hrb hb4 ⊢
  refine lv_iload_n hx hb dX0_pour_0 rfl (lv_at hl 1 rfl) ?_
  refine lv_iconst (v := nI 3) hx hb dX0_pour_1 (by decide) ?_
  refine lv_iand hx hb dX0_pour_2 ?_
  refine lv_tn (nI (a)) (hra) ?_
  refine lv_istore_n (lv' := [(3, .int (nI a)), (0, .ref x), (1, .int r), (2, .int q)]) hx hb dX0_pour_3 rfl hl (by decide) rfl (fun ls hl => ?_)
  refine lv_iload_n hx hb dX0_pour_4 rfl (lv_at hl 3 rfl) ?_
  refine lv_iconst (v := nI 3) hx hb dX0_pour_5 (by decide) ?_
  refine lv_iand hx hb dX0_pour_6 ?_
  refine lv_tn (nI (b)) (hrb) ?_
  refine lv_istore (lv' := [(4, .int (nI b)), (3, .int (nI a)), (0, .ref x), (1, .int r), (2, .int q)]) hx hb dX0_pour_7 hl (by decide) rfl (fun ls hl => ?_)
  refine lv_iconst (v := nI 0) hx hb dX0_pour_9 (by decide) ?_
  refine lv_istore (lv' := [(5, .int (nI 0)), (4, .int (nI b)), (3, .int (nI a)), (0, .ref x), (1, .int r), (2, .int q)]) hx hb dX0_pour_10 hl (by decide) rfl (fun ls hl => ?_)
  refine lv_iload_n hx hb dX0_pour_12 rfl (lv_at hl 2 rfl) ?_
  refine lv_iload hx hb dX0_pour_13 (lv_at hl 1 rfl) ?_
  refine bn_ne (tgt := 20) hx hb dX0_pour_15 (by decide) (by omega) (by omega) (fun hab => ?_) (fun hab => ?_)
  · have loop : ∀ (m9 k : Nat) (N9 : Nat → Nat) (C9 : Nat → Int32 → Nat) (ws9 : va_W) (H : Heap) (locs : List Loc) (ls : Array Slot), N9 b = m9 → k + m9 ≤ 64 → k + m9 = N b → Dk G A H x ws9 puts N9 C9 → (∀ i : Nat, i ≠ a → i ≠ b → N9 i = N i ∧ ∀ z : Int32, C9 i z = C i z) → N9 a + m9 = N a + N b → (∀ z : Int32, C9 a z + C9 b z = C a z + C b z) → va_S A s.heap H locs → lv_has ls 6 [(5, .int (nI k)), (4, .int (nI b)), (3, .int (nI a)), (0, .ref x)] → W p l e (headSpec (ws_ yX0_pour cX0_pour 6 (some .int)) ({ frames := 5, cells := 128, slots := 16512, locals := 113 })).room s m ([.ref x, .int r, .int q] : List Value).toArray below meth c H locs (2 * k) (258 * k) (MQ below (va_Qi (fun (y : Int32) (u : va_W × (Nat → Nat) × (Nat → Int32 → Nat)) => (a = b → y = -1 ∧ u.2 = (N, C)) ∧ (a ≠ b → y = nI (N b) ∧ u.2 = (nPour N a b, cPour C a b))) (fun u t => Dk G (A) t.heap x u.1 puts u.2.1 u.2.2) (A)) ([.ref x, .int r, .int q] : List Value).toArray s 128 16512 A) (F0 m 20 ls []) := by
      intro m9
      induction m9 with
      | zero =>
        intro k N9 C9 ws9 H locs ls hNb hk64 hkN hDk hoth hNa hCs hS hl
        have hDk1 := hDk
        obtain ⟨fl, g, hp, ar, cap, f, v, rfl, hok, hC, hP, hD⟩ := hDk
        obtain ⟨a1, a2, a3, a4, a5⟩ := hok.2.2.2 b hb4
        have hsum := hok.2.2.1
        have hput := hok.2.1
        have hle := le_sum (n := N9) hb4
        refine lv_aload_n hx hb dX0_pour_20 rfl (lv_at hl 3 rfl) ?_
        refine va_get (D := G.1) (ci := 1) (v := .ref fl) (C := RX0) (T := TX0) (N := 2) hx hb hts in_X0 hown hK hP 0 rfl rfl 0 (by decide) (hts _ q186) (fun _ h9 => h9) rfl dX0_pour_21 ?_
        refine lv_iload hx hb dX0_pour_24 (lv_at hl 1 rfl) ?_
        refine qld (y := (hp b)) hx hb hK hP 1 1 rfl rfl (hb4) (by decide) (hok.1 b hb4) dX0_pour_26 ?_
        have hPc := dsk_P (j := b) hb4 hP
        refine vp_callSi (va_Run.run (va_runU (As := []) (rest := []) ⟨hx, hb, hml, hown, hts⟩ (m_hEmpty l G _ (hp b) (ar b) (N9 b) (dd b) (cV G (upq b)) (by omega) (hPc.sub [0] rfl)) (va_cwU 0 hts (lw_U (C := "DaryArrayHeap") (owner := "AbstractArrayWeakHeap") (x := ⟨"DaryArrayHeap", "isEmpty", "()Z"⟩) (y := yX1_isEmpty) q323 q324 q326 q327 q5 q328) rfl rfl rfl rfl (by decide +kernel) ⟨Nat.le_of_ble_eq_true rfl, Nat.le_of_ble_eq_true rfl⟩) (PcG.v (va_recv hK hPc (ci := 0) (q0 := 0) (q := (RX3, TX3, 5)) rfl rfl) (hG.ro hS)) rfl rfl hl.1 rfl (lv_room (Nat.le_of_ble_eq_true rfl)) dX0_pour_27 ⟨by show 2 * k + 0 ≤ 128; omega, by show 258 * k + 0 ≤ 16512; omega⟩)) (fun r92 hr92 => ?_)
        rw [if_pos hNb] at hr92
        refine lv_tn (nI (1)) (hr92) ?_
        refine bz_ne (tgt := 61) hx hb dX0_pour_30 (by decide) (by omega) (fun c1 => ?_) (fun c1 => ?_)
        · refine lv_iload hx hb dX0_pour_61 (lv_at hl 0 rfl) ?_
          have hCb : ∀ zz : Int32, C9 b zz = 0 := fun zz => by rw [hC b hb4 zz, hNb]; rfl
          have hDk2 := hDk1.congr (N' := nPour N a b) (C' := cPour C a b) (fun i hi => by
            unfold nPour
            by_cases e1 : i = b
            · rw [e1, va_up_self]; exact hNb
            · rw [va_up_ne _ _ e1]
              by_cases e2 : i = a
              · rw [e2, va_up_self]; omega
              · rw [va_up_ne _ _ e2]; exact (hoth i e2 e1).1) (fun i hi zz => by
            unfold cPour
            by_cases e2 : i = a
            · rw [if_pos e2, e2]
              have h9 := hCs zz
              rw [hCb zz] at h9
              exact h9
            · rw [if_neg e2]
              by_cases e1 : i = b
              · rw [if_pos e1, e1]; exact hCb zz
              · rw [if_neg e1]; exact (hoth i e2 e1).2 zz)
          refine W.widen (k := 128) (n := 16512) (by omega) (by omega) ?_
          exact W.iret (v := nI k) hx hb hr (fun t ht hW => ⟨⟨nI k, (_, nPour N a b, cPour C a b), rfl, ⟨fun z => absurd z hab, fun _ => ⟨congrArg nI (by omega), rfl⟩⟩, by dsimp only; rw [ht]; exact hDk2⟩, hS.F ht⟩) hS.2.2 dX0_pour_63
        · exact absurd c1 (by decide)
      | succ m9 ih =>
        intro k N9 C9 ws9 H locs ls hNb hk64 hkN hDk hoth hNa hCs hS hl
        have hDk1 := hDk
        obtain ⟨fl, g, hp, ar, cap, f, v, rfl, hok, hC, hP, hD⟩ := hDk
        obtain ⟨a1, a2, a3, a4, a5⟩ := hok.2.2.2 b hb4
        have hsum := hok.2.2.1
        have hput := hok.2.1
        have hle := le_sum (n := N9) hb4
        refine lv_aload_n hx hb dX0_pour_20 rfl (lv_at hl 3 rfl) ?_
        refine va_get (D := G.1) (ci := 1) (v := .ref fl) (C := RX0) (T := TX0) (N := 2) hx hb hts in_X0 hown hK hP 0 rfl rfl 0 (by decide) (hts _ q186) (fun _ h9 => h9) rfl dX0_pour_21 ?_
        refine lv_iload hx hb dX0_pour_24 (lv_at hl 1 rfl) ?_
        refine qld (y := (hp b)) hx hb hK hP 1 1 rfl rfl (hb4) (by decide) (hok.1 b hb4) dX0_pour_26 ?_
        have hPc := dsk_P (j := b) hb4 hP
        refine vp_callSi (va_Run.run (va_runU (As := []) (rest := []) ⟨hx, hb, hml, hown, hts⟩ (m_hEmpty l G _ (hp b) (ar b) (N9 b) (dd b) (cV G (upq b)) (by omega) (hPc.sub [0] rfl)) (va_cwU 0 hts (lw_U (C := "DaryArrayHeap") (owner := "AbstractArrayWeakHeap") (x := ⟨"DaryArrayHeap", "isEmpty", "()Z"⟩) (y := yX1_isEmpty) q323 q324 q326 q327 q5 q328) rfl rfl rfl rfl (by decide +kernel) ⟨Nat.le_of_ble_eq_true rfl, Nat.le_of_ble_eq_true rfl⟩) (PcG.v (va_recv hK hPc (ci := 0) (q0 := 0) (q := (RX3, TX3, 5)) rfl rfl) (hG.ro hS)) rfl rfl hl.1 rfl (lv_room (Nat.le_of_ble_eq_true rfl)) dX0_pour_27 ⟨by show 2 * k + 0 ≤ 128; omega, by show 258 * k + 0 ≤ 16512; omega⟩)) (fun r93 hr93 => ?_)
        rw [if_neg (by omega)] at hr93
        refine lv_tn (nI (0)) (hr93) ?_
        refine bz_ne (tgt := 61) hx hb dX0_pour_30 (by decide) (by omega) (fun c1 => ?_) (fun c1 => ?_)
        · exact absurd rfl c1
        · refine lv_aload_n hx hb dX0_pour_33 rfl (lv_at hl 3 rfl) ?_
          refine va_get (D := G.1) (ci := 1) (v := .ref fl) (C := RX0) (T := TX0) (N := 2) hx hb hts in_X0 hown hK hP 0 rfl rfl 0 (by decide) (hts _ q186) (fun _ h9 => h9) rfl dX0_pour_34 ?_
          refine lv_iload_n hx hb dX0_pour_37 rfl (lv_at hl 2 rfl) ?_
          refine qld (y := (hp a)) hx hb hK hP 1 1 rfl rfl (ha4) (by decide) (hok.1 a ha4) dX0_pour_38 ?_
          refine lv_aload_n hx hb dX0_pour_39 rfl (lv_at hl 3 rfl) ?_
          refine va_get (D := G.1) (ci := 1) (v := .ref fl) (C := RX0) (T := TX0) (N := 2) hx hb hts in_X0 hown hK hP 0 rfl rfl 0 (by decide) (hts _ q186) (fun _ h9 => h9) rfl dX0_pour_40 ?_
          refine lv_iload hx hb dX0_pour_43 (lv_at hl 1 rfl) ?_
          refine qld (y := (hp b)) hx hb hK hP 1 1 rfl rfl (hb4) (by decide) (hok.1 b hb4) dX0_pour_45 ?_
          have hPc := dsk_P (j := b) hb4 hP
          have hDc := dsk_D (j := b) hb4 hD
          have hFc := freeL hDc hS hA
          refine va_callr (va_runU (As := []) (rest := [.ref ((hp a))]) ⟨hx, hb, hml, hown, hts⟩ (m_del1 l G _ (hp b) (ar b) (cap b) (N9 b) (dd b) (upq b) (f b) (v b) (dd_or b) (by omega) a3 a1 a2 a4 a5 hPc (hDc.weaken (fun _ _ _ _ => trivial))) (va_cwU 0 hts (lw_U (C := "DaryArrayHeap") (owner := "AbstractArrayHeap") (x := ⟨"DaryArrayHeap", "deleteMin", "()Ljava/lang/Object;"⟩) (y := yX2_deleteMin) q360 q361 q363 q364 q6 q365) rfl rfl rfl rfl (by decide +kernel) ⟨Nat.le_of_ble_eq_true rfl, Nat.le_of_ble_eq_true rfl⟩) (PcG.v (va_recv hK hPc (ci := 0) (q0 := 0) (q := (RX3, TX3, 5)) rfl rfl) (hG.sub hS hFc)) rfl rfl hl.1 rfl (lv_room (Nat.le_of_ble_eq_true rfl)) dX0_pour_46 ⟨by show 2 * k + 1 ≤ 128; omega, by show 258 * k + 129 ≤ 16512; omega⟩) hS (fun q _ h => hFc q h) hFc (fun u ra t H94 locs ht hvm hw hB hz1 hk1 hS => ?_)
          try dsimp only at hB
          try dsimp only at hw
          rw [ht] at hB
          obtain ⟨hy1, hP1, hD1, hb9⟩ := hB
          have hb1 : bK G H H94 := bK.of hK hPc wH_nI hk1
          obtain ⟨hP, hD⟩ := dsk_join hb4 hP hD hk1 hFc hP1 hD1
          have hsu := sum_up (n := N9) (n' := N9 b - 1) hb4
          have hkb : ∀ zz : Int32, (if v b 1 = zz then 1 else 0) ≤ C9 b zz := fun zz => by have h9 := hw.2.2.2.1 zz; rw [hC b hb4 zz]; omega
          obtain ⟨ar1, cap1, f1, v1, hok1, hC1, hP, hD⟩ : ∃ (ar1 cap1 : Nat → Nat) (f1 : Nat → Nat → Option Nat) (v1 : Nat → Nat → Int32), dOK G H94 puts g hp cap1 (va_up N9 b (N9 b - 1)) f1 v1 ∧ (∀ i : Nat, i < 4 → ∀ z : Int32, cSub C9 b (v b 1) i z = cnt (v1 i) ((va_up N9 b (N9 b - 1)) i) z) ∧ va_P G.1 vwCl ((x, .inr (1, [.ref fl, .int (nI puts)])) :: (fl, .inl (G.2.1 1, qA 4 g)) :: hps G hp ar1 cap1 (va_up N9 b (N9 b - 1)) f1) H94 ∧ va_D A ((x, .inr (1, [.ref fl, .int (nI puts)])) :: (fl, .inl (G.2.1 1, qA 4 g)) :: hps G hp ar1 cap1 (va_up N9 b (N9 b - 1)) f1) := ⟨_, _, _, _, hok.upd hb1 (by omega) hput hw.1 hw.2.1 hw.2.2.1 hw.2.2.2.2 hb9, cSub_ok hC hw.2.2.2.1, hP, hD⟩
          generalize hkk : v b 1 = kk at hy1 hC1 hkb
          obtain ⟨N1, eN1⟩ : ∃ N1 : Nat → Nat, (va_up N9 b (N9 b - 1)) = N1 := ⟨_, rfl⟩
          rw [eN1] at hok1 hC1 hP hD hsu
          have hN1a : N1 a = N9 a := by rw [← eN1]; exact va_up_ne _ _ hab
          have hN1b : N1 b = m9 := by rw [← eN1, va_up_self]; omega
          have hN1o : ∀ i, i ≠ b → N1 i = N9 i := fun i hi => by rw [← eN1]; exact va_up_ne _ _ hi
          obtain ⟨d1, d2, d3, d4, d5⟩ := hok1.2.2.2 a ha4
          have hsum1 := hok1.2.2.1
          have hle1 := le_sum (n := N1) ha4
          refine va_castS (nm := "java/lang/Integer") hx hb hown (hts _ q266) (hK.1 3 (RJ6, TJ6, 1) rfl).2 (bx.recv hK hy1) dX0_pour_49 ?_
          have hPc := dsk_P (j := a) ha4 hP
          have hDc := dsk_D (j := a) ha4 hD
          have hFc := freeL hDc hS hA
          refine va_callv (va_runU (As := [.ref ra]) (rest := []) ⟨hx, hb, hml, hown, hts⟩ (m_ins l G _ (hp a) (ar1 a) (cap1 a) (N1 a) (dd a) (upq a) (f1 a) (v1 a) (dd_or a) ra kk d3 (by omega) d1 d2 hy1 d4 d5 hPc (hDc.weaken (fun _ _ _ _ => trivial))) (va_cwU 1 hts (lw_U (C := "DaryArrayHeap") (owner := "AbstractArrayHeap") (x := ⟨"DaryArrayHeap", "insert", "(Ljava/lang/Object;)V"⟩) (y := yX2_insert) q218 q219 q221 q222 q6 q223) rfl rfl rfl rfl (by decide +kernel) ⟨Nat.le_of_ble_eq_true rfl, Nat.le_of_ble_eq_true rfl⟩) (PcG.v (va_recv hK hPc (ci := 0) (q0 := 0) (q := (RX3, TX3, 5)) rfl rfl) (hG.sub hS hFc)) rfl rfl hl.1 rfl (lv_room (Nat.le_of_ble_eq_true rfl)) dX0_pour_52 ⟨by show 2 * k + 1 + 1 ≤ 128; omega, by show 258 * k + 129 + 129 ≤ 16512; omega⟩) hS (fun q _ h => hFc q h) hFc (fun u2 t H95 locs ht hvm hw2 hB hz1 hk1 hS => ?_)
          try dsimp only at hB
          try dsimp only at hw2
          rw [ht] at hB
          obtain ⟨hP1, hD1, hb8⟩ := hB
          have hb1 : bK G H94 H95 := bK.of hK hPc wH_nI hk1
          obtain ⟨hP, hD⟩ := dsk_join ha4 hP hD hk1 hFc hP1 hD1
          have hsu2 := sum_up (n := N1) (n' := N1 a + 1) ha4
          obtain ⟨w9, hfin⟩ : ∃ w9 : va_W, Dk G A H95 x w9 puts (va_up N1 a (N1 a + 1)) (cAdd (cSub C9 b kk) a kk) := ⟨_, fl, g, hp, _, _, _, _, rfl, hok1.upd hb1 (by omega) hput hw2.1 hw2.2.1 hw2.2.2.1 hw2.2.2.2.2 hb8, cAdd_ok hC1 hw2.2.2.2.1, hP, hD⟩
          refine lv_iinc (v := nI (k + 1)) (lv' := [(5, .int (nI (k + 1))), (4, .int (nI b)), (3, .int (nI a)), (0, .ref x)]) hx hb dX0_pour_55 hl (k := 0) rfl (by rw [show Int32.ofInt 1 = nI 1 from by decide]; exact nI_add (k) 1) (by decide) rfl (fun ls hl => ?_)
          refine lv_goto (tgt := 20) hx hb dX0_pour_58 (by decide) ?_
          refine W.widen (k := 2 * (k + 1)) (n := 258 * (k + 1)) (by omega) (by omega) ?_
          refine ih (k + 1) _ _ w9 _ _ _ ?_ (by omega) (by omega) hfin ?_ ?_ ?_ hS (lv_sub hl [0, 1, 2, 3] rfl)
          · rw [va_up_ne _ _ (fun z => hab z.symm)]; exact hN1b
          · intro i e1 e2
            refine ⟨by rw [va_up_ne _ _ e1, hN1o i e2]; exact (hoth i e1 e2).1, fun zz => ?_⟩
            have h9 := (hoth i e1 e2).2 zz
            unfold cAdd cSub
            simp only [e1, e2, false_and, if_false]
            omega
          · rw [va_up_self]; omega
          · intro zz
            have h9 := hCs zz
            have h8 := hkb zz
            have hba : b ≠ a := fun z => hab z.symm
            unfold cAdd cSub
            simp only [hab, hba, false_and, true_and, if_false]
            omega
    have hNb64 : N b ≤ 64 := by
      obtain ⟨fl, g, hp, ar, cap, f, v, -, hok, -⟩ := id hDk
      have h1 := hok.2.2.1
      have h2 := hok.2.1
      have h3 := le_sum (n := N) hb4
      omega
    exact loop (N b) 0 N C ws _ _ _ rfl (by omega) (by omega) hDk (fun i _ _ => ⟨rfl, fun _ => rfl⟩) rfl (fun _ => rfl) hS (lv_sub hl [0, 1, 2, 3] rfl)
  · refine lv_iconst (v := (-1)) hx hb dX0_pour_18 (by decide) ?_
    refine W.widen (k := 128) (n := 16512) (by decide) (by decide) ?_
    exact W.iret (v := (-1)) hx hb hr (fun t ht hW => ⟨⟨-1, (ws, N, C), rfl, ⟨fun _ => ⟨rfl, rfl⟩, fun z => absurd hab z⟩, by dsimp only; rw [ht]; exact hDk⟩, hS.F ht⟩) hS.2.2 dX0_pour_19
set_option maxHeartbeats 4000000 in
set_option maxRecDepth 100000 in
/-- four(r, e0, e1, e2, e3) -/
theorem m_dFour (l : Launch) (G : gG) (H0 : Heap) (x : Nat) (ws : va_W) (puts : Nat) (N : Nat → Nat) (C : Nat → Int32 → Nat) (hDk : Dk G (fun _ => True) H0 x ws puts N C) (r e0 e1 e2 e3 : Int32) : Met l yX0_four (ws_ yX0_four cX0_four 8 (some .boolean)) ({ frames := 6, cells := 7, slots := 30, locals := 134 }) (PcG G [.ref x, .int r, .int e0, .int e1, .int e2, .int e3] H0 (va_A ws H0.size)) (va_Qi (fun (y : Int32) (u : va_W × Nat × (Nat → Nat) × (Nat → Int32 → Nat)) => (puts ≤ 60 → y = 1 ∧ u.2 = (puts + 4, va_up N (r4 r) 4, cFour C (r4 r) (e0 &&& 65535) (e1 &&& 65535) (e2 &&& 65535) (e3 &&& 65535))) ∧ (¬ puts ≤ 60 → y = 0 ∧ u.2 = (puts, N, C))) (fun u t => Dk G (va_A ws H0.size) t.heap x u.1 u.2.1 u.2.2.1 u.2.2.2) (va_A ws H0.size)) 7 30 (va_A ws H0.size) := by
  refine Met.ofW (cc := cX0_four) (maxL := 8) (ret := (some .boolean)) (by decide) rfl ?_
  intro p e s m args below meth c s₁ B hml hv
  obtain ⟨rfl, rfl, hG⟩ := hv
  have hx := B.exec
  have hb := B.bytes
  have hr := B.returns
  have hts := atoms_spec (ws := ws_ yX0_four cX0_four 8 (some .boolean)) B.pre
  have hts : ∀ w ∈ lw_all, w.before _ s = true := fun w h => hts w (List.mem_cons_of_mem _ h)
  have hown : s.vm.findClass RX0 = some m.cls := findClass_of_methodNamed B.named
  have hlocks := B.notSynchronized
  have hK := hG.K
  have hbk : ∀ (H : Heap) (locs : List Loc), va_S (va_A ws s.heap.size) s.heap H locs → bK G s.heap H := fun H locs h => bK.of hK hDk.P hDk.nI h.2.1
  have hDk := hDk.wk (hDk.D.self (sz := s.heap.size))
  generalize hAe : va_A ws s.heap.size = A at hDk hG hbk ⊢
  have hA : ∀ q : Nat, s.heap.size ≤ q → A q := fun q h => by rw [← hAe]; exact Or.inr h
  have hS : va_S A s.heap s.heap [] := va_S.rf
  have hl := lv_entry ([.ref x, .int r, .int e0, .int e1, .int e2, .int e3]) (n := 8) (Nat.le_of_ble_eq_true rfl)
  rw [lg_entry_eq]
  generalize (lg_sl ([.ref x, .int r, .int e0, .int e1, .int e2, .int e3]) ++ List.replicate (8 - (lg_sl ([.ref x, .int r, .int e0, .int e1, .int e2, .int e3])).length) Slot.unset).toArray = ls at hl ⊢
  have hl : lv_has ls 8 [(0, .ref x), (1, .int r), (2, .int e0), (3, .int e1), (4, .int e2), (5, .int e3)] := hl
  have hra := r4_and r
  have hj4 := r4_lt r
  generalize hje : r4 r = j at hra hj4 ⊢
  obtain ⟨ws0, hDk0⟩ : ∃ w9 : va_W, Dk G A s.heap x w9 puts N C := ⟨_, hDk⟩
  obtain ⟨fl, g, hp, ar, cap, f, v, rfl, hok, hC, hP, hD⟩ := hDk
  have hsum := hok.2.2.1
  have hle := le_sum (n := N) hj4
  have hput := hok.2.1
  refine lv_aload_n hx hb dX0_four_0 rfl (lv_at hl 0 rfl) ?_
  refine va_get (D := G.1) (ci := 1) (v := .int (nI puts)) (C := RX0) (T := TX0) (N := 2) hx hb hts in_X0 hown hK hP 0 rfl rfl 1 (by decide) (hts _ q187) (fun _ h9 => h9) rfl dX0_four_1 ?_
  refine lv_bipush (v := nI 60) hx hb dX0_four_4 (by decide) ?_
  refine bn_le (tgt := 11) hx hb dX0_four_6 (by decide) (by omega) (by omega) (fun c1 => ?_) (fun c1 => ?_)
  · refine lv_aload_n hx hb dX0_four_11 rfl (lv_at hl 0 rfl) ?_
    refine lv_dup hx hb dX0_four_12 rfl ?_
    refine va_get (D := G.1) (ci := 1) (v := .int (nI puts)) (C := RX0) (T := TX0) (N := 2) hx hb hts in_X0 hown hK hP 0 rfl rfl 1 (by decide) (hts _ q187) (fun _ h9 => h9) rfl dX0_four_13 ?_
    refine lv_iconst (v := nI 4) hx hb dX0_four_16 (by decide) ?_
    refine lv_iadd hx hb dX0_four_17 ?_
    refine lv_tn (nI (puts + 4)) (nI_add _ _) ?_
    refine va_put (D := G.1) (ci := 1) (v := .int (nI (puts + 4))) (ty := .int) (C := RX0) (T := TX0) (N := 2) hx hb hts in_X0 tyX0 tyX0_ok nmX0 hown hK hP hD hS 0 rfl rfl 1 (by decide) (hts _ q187) (fun _ h9 => h9) rfl (by decide +kernel) rfl rfl (Nat.le_of_ble_eq_true rfl) dX0_four_18 (fun H96 locs hP hD hS => ?_)
    have hP : va_P G.1 vwCl ((x, .inr (1, [.ref fl, .int (nI (puts + 4))])) :: (fl, .inl (G.2.1 1, qA (4) (g))) :: hps G hp ar cap N f) H96 := hP
    have hD : va_D A ((x, .inr (1, [.ref fl, .int (nI (puts + 4))])) :: (fl, .inl (G.2.1 1, qA (4) (g))) :: hps G hp ar cap N f) := hD
    refine lv_iconst (v := nI 4) hx hb dX0_four_21 (by decide) ?_
    refine nwq (C := "java/lang/Integer") hx hb hown (hts _ q266) hG.N.aoI hK 2 rfl hP hD hS hA (by decide) (Nat.le_of_ble_eq_true rfl) (Nat.le_of_ble_eq_true rfl) dX0_four_22 (fun qq H97 hP hD hS => ?_)
    have hP := swpP (a := ((x, .inr (1, [.ref fl, .int (nI (puts + 4))])) :: (fl, .inl (G.2.1 1, qA (4) (g))) :: hps G hp ar cap N f)) (b := [(qq, .inl (G.2.1 2, qA (4) (fun _ => none)))]) hP
    have hD := swpD (a := ((x, .inr (1, [.ref fl, .int (nI (puts + 4))])) :: (fl, .inl (G.2.1 1, qA (4) (g))) :: hps G hp ar cap N f)) (b := [(qq, .inl (G.2.1 2, qA (4) (fun _ => none)))]) hD
    have hP : va_P G.1 vwCl ((qq, .inl (G.2.1 2, qA (4) (fun _ => none))) :: (x, .inr (1, [.ref fl, .int (nI (puts + 4))])) :: (fl, .inl (G.2.1 1, qA (4) (g))) :: hps G hp ar cap N f) H97 := hP
    have hD : va_D A ((qq, .inl (G.2.1 2, qA (4) (fun _ => none))) :: (x, .inr (1, [.ref fl, .int (nI (puts + 4))])) :: (fl, .inl (G.2.1 1, qA (4) (g))) :: hps G hp ar cap N f) := hD
    obtain ⟨k0, hk0, ek0⟩ := and_16 e0
    refine lv_dup hx hb dX0_four_25 rfl ?_
    refine lv_iconst (v := nI 0) hx hb dX0_four_26 (by decide) ?_
    refine lv_iload_n hx hb dX0_four_27 rfl (lv_at hl 2 rfl) ?_
    refine lv_ldc (v := 65535) hx hb hown (hts _ q197) dX0_four_28 ?_
    refine lv_iand hx hb dX0_four_30 ?_
    refine lv_tn (nI (k0)) (ek0) ?_
    have hFc := va_free (wc := []) hD hS hA [] rfl
    refine va_callr (va_runS (As := [.int (nI k0)]) (rest := [.int (nI 0), .ref qq, .ref qq]) ⟨hx, hb, hml, hown, hts⟩ (m_valO l G _ k0 hk0) (va_cwS 1 hts (lw_S q198 q199 q15 q200) rfl rfl rfl (by decide +kernel) ⟨Nat.le_of_ble_eq_true rfl, Nat.le_of_ble_eq_true rfl⟩) (PcG.s (hG.sub hS hFc)) rfl rfl hl.1 rfl (lv_room (Nat.le_of_ble_eq_true rfl)) dX0_four_31 ⟨Nat.le_of_ble_eq_true rfl, Nat.le_of_ble_eq_true rfl⟩) hS (fun q _ h => hFc q h) hFc (fun u9 yH98 t H98 locs ht hvm hw9 hyH98 hz1 hk1 hS => ?_)
    try dsimp only at hyH98
    rw [ht] at hyH98
    have hP := keep0 hP hk1
    have hb2 : bK G H97 H98 := bK0 hk1
    have hP0 := hP
    refine qst (C := "java/lang/Integer") hx hb hK hP hD hS 0 2 rfl rfl (bx.recv hK hyH98) vb_asgS (by decide) (by decide) dX0_four_34 (fun H99 locs hP hD hS hoq => ?_)
    have hb1 : bK G H98 H99 := bK.one hK (hP0 0 _ rfl) ⟨2, by decide, rfl⟩ hoq
    have hyH98 := hb1 _ _ hyH98
    have hP : va_P G.1 vwCl ((qq, .inl (G.2.1 2, qA (4) (va_up (fun _ => none) (0) (some yH98)))) :: (x, .inr (1, [.ref fl, .int (nI (puts + 4))])) :: (fl, .inl (G.2.1 1, qA (4) (g))) :: hps G hp ar cap N f) H99 := hP
    have hD : va_D A ((qq, .inl (G.2.1 2, qA (4) (va_up (fun _ => none) (0) (some yH98)))) :: (x, .inr (1, [.ref fl, .int (nI (puts + 4))])) :: (fl, .inl (G.2.1 1, qA (4) (g))) :: hps G hp ar cap N f) := hD
    obtain ⟨k1, hk1, ek1⟩ := and_16 e1
    refine lv_dup hx hb dX0_four_35 rfl ?_
    refine lv_iconst (v := nI 1) hx hb dX0_four_36 (by decide) ?_
    refine lv_iload_n hx hb dX0_four_37 rfl (lv_at hl 3 rfl) ?_
    refine lv_ldc (v := 65535) hx hb hown (hts _ q197) dX0_four_38 ?_
    refine lv_iand hx hb dX0_four_40 ?_
    refine lv_tn (nI (k1)) (ek1) ?_
    have hFc := va_free (wc := []) hD hS hA [] rfl
    refine va_callr (va_runS (As := [.int (nI k1)]) (rest := [.int (nI 1), .ref qq, .ref qq]) ⟨hx, hb, hml, hown, hts⟩ (m_valO l G _ k1 hk1) (va_cwS 1 hts (lw_S q198 q199 q15 q200) rfl rfl rfl (by decide +kernel) ⟨Nat.le_of_ble_eq_true rfl, Nat.le_of_ble_eq_true rfl⟩) (PcG.s (hG.sub hS hFc)) rfl rfl hl.1 rfl (lv_room (Nat.le_of_ble_eq_true rfl)) dX0_four_41 ⟨Nat.le_of_ble_eq_true rfl, Nat.le_of_ble_eq_true rfl⟩) hS (fun q _ h => hFc q h) hFc (fun u9 yH100 t H100 locs ht hvm hw9 hyH100 hz1 hk1 hS => ?_)
    try dsimp only at hyH100
    rw [ht] at hyH100
    have hP := keep0 hP hk1
    have hb2 : bK G H99 H100 := bK0 hk1
    have hyH98 := hb2 _ _ hyH98
    have hP0 := hP
    refine qst (C := "java/lang/Integer") hx hb hK hP hD hS 0 2 rfl rfl (bx.recv hK hyH100) vb_asgS (by decide) (by decide) dX0_four_44 (fun H101 locs hP hD hS hoq => ?_)
    have hb1 : bK G H100 H101 := bK.one hK (hP0 0 _ rfl) ⟨2, by decide, rfl⟩ hoq
    have hyH98 := hb1 _ _ hyH98
    have hyH100 := hb1 _ _ hyH100
    have hP : va_P G.1 vwCl ((qq, .inl (G.2.1 2, qA (4) (va_up (va_up (fun _ => none) (0) (some yH98)) (1) (some yH100)))) :: (x, .inr (1, [.ref fl, .int (nI (puts + 4))])) :: (fl, .inl (G.2.1 1, qA (4) (g))) :: hps G hp ar cap N f) H101 := hP
    have hD : va_D A ((qq, .inl (G.2.1 2, qA (4) (va_up (va_up (fun _ => none) (0) (some yH98)) (1) (some yH100)))) :: (x, .inr (1, [.ref fl, .int (nI (puts + 4))])) :: (fl, .inl (G.2.1 1, qA (4) (g))) :: hps G hp ar cap N f) := hD
    obtain ⟨k2, hk2, ek2⟩ := and_16 e2
    refine lv_dup hx hb dX0_four_45 rfl ?_
    refine lv_iconst (v := nI 2) hx hb dX0_four_46 (by decide) ?_
    refine lv_iload hx hb dX0_four_47 (lv_at hl 4 rfl) ?_
    refine lv_ldc (v := 65535) hx hb hown (hts _ q197) dX0_four_49 ?_
    refine lv_iand hx hb dX0_four_51 ?_
    refine lv_tn (nI (k2)) (ek2) ?_
    have hFc := va_free (wc := []) hD hS hA [] rfl
    refine va_callr (va_runS (As := [.int (nI k2)]) (rest := [.int (nI 2), .ref qq, .ref qq]) ⟨hx, hb, hml, hown, hts⟩ (m_valO l G _ k2 hk2) (va_cwS 1 hts (lw_S q198 q199 q15 q200) rfl rfl rfl (by decide +kernel) ⟨Nat.le_of_ble_eq_true rfl, Nat.le_of_ble_eq_true rfl⟩) (PcG.s (hG.sub hS hFc)) rfl rfl hl.1 rfl (lv_room (Nat.le_of_ble_eq_true rfl)) dX0_four_52 ⟨Nat.le_of_ble_eq_true rfl, Nat.le_of_ble_eq_true rfl⟩) hS (fun q _ h => hFc q h) hFc (fun u9 yH102 t H102 locs ht hvm hw9 hyH102 hz1 hk1 hS => ?_)
    try dsimp only at hyH102
    rw [ht] at hyH102
    have hP := keep0 hP hk1
    have hb2 : bK G H101 H102 := bK0 hk1
    have hyH98 := hb2 _ _ hyH98
    have hyH100 := hb2 _ _ hyH100
    have hP0 := hP
    refine qst (C := "java/lang/Integer") hx hb hK hP hD hS 0 2 rfl rfl (bx.recv hK hyH102) vb_asgS (by decide) (by decide) dX0_four_55 (fun H103 locs hP hD hS hoq => ?_)
    have hb1 : bK G H102 H103 := bK.one hK (hP0 0 _ rfl) ⟨2, by decide, rfl⟩ hoq
    have hyH98 := hb1 _ _ hyH98
    have hyH100 := hb1 _ _ hyH100
    have hyH102 := hb1 _ _ hyH102
    have hP : va_P G.1 vwCl ((qq, .inl (G.2.1 2, qA (4) (va_up (va_up (va_up (fun _ => none) (0) (some yH98)) (1) (some yH100)) (2) (some yH102)))) :: (x, .inr (1, [.ref fl, .int (nI (puts + 4))])) :: (fl, .inl (G.2.1 1, qA (4) (g))) :: hps G hp ar cap N f) H103 := hP
    have hD : va_D A ((qq, .inl (G.2.1 2, qA (4) (va_up (va_up (va_up (fun _ => none) (0) (some yH98)) (1) (some yH100)) (2) (some yH102)))) :: (x, .inr (1, [.ref fl, .int (nI (puts + 4))])) :: (fl, .inl (G.2.1 1, qA (4) (g))) :: hps G hp ar cap N f) := hD
    obtain ⟨k3, hk3, ek3⟩ := and_16 e3
    refine lv_dup hx hb dX0_four_56 rfl ?_
    refine lv_iconst (v := nI 3) hx hb dX0_four_57 (by decide) ?_
    refine lv_iload hx hb dX0_four_58 (lv_at hl 5 rfl) ?_
    refine lv_ldc (v := 65535) hx hb hown (hts _ q197) dX0_four_60 ?_
    refine lv_iand hx hb dX0_four_62 ?_
    refine lv_tn (nI (k3)) (ek3) ?_
    have hFc := va_free (wc := []) hD hS hA [] rfl
    refine va_callr (va_runS (As := [.int (nI k3)]) (rest := [.int (nI 3), .ref qq, .ref qq]) ⟨hx, hb, hml, hown, hts⟩ (m_valO l G _ k3 hk3) (va_cwS 1 hts (lw_S q198 q199 q15 q200) rfl rfl rfl (by decide +kernel) ⟨Nat.le_of_ble_eq_true rfl, Nat.le_of_ble_eq_true rfl⟩) (PcG.s (hG.sub hS hFc)) rfl rfl hl.1 rfl (lv_room (Nat.le_of_ble_eq_true rfl)) dX0_four_63 ⟨Nat.le_of_ble_eq_true rfl, Nat.le_of_ble_eq_true rfl⟩) hS (fun q _ h => hFc q h) hFc (fun u9 yH104 t H104 locs ht hvm hw9 hyH104 hz1 hk1 hS => ?_)
    try dsimp only at hyH104
    rw [ht] at hyH104
    have hP := keep0 hP hk1
    have hb2 : bK G H103 H104 := bK0 hk1
    have hyH98 := hb2 _ _ hyH98
    have hyH100 := hb2 _ _ hyH100
    have hyH102 := hb2 _ _ hyH102
    have hP0 := hP
    refine qst (C := "java/lang/Integer") hx hb hK hP hD hS 0 2 rfl rfl (bx.recv hK hyH104) vb_asgS (by decide) (by decide) dX0_four_66 (fun H105 locs hP hD hS hoq => ?_)
    have hb1 : bK G H104 H105 := bK.one hK (hP0 0 _ rfl) ⟨2, by decide, rfl⟩ hoq
    have hyH98 := hb1 _ _ hyH98
    have hyH100 := hb1 _ _ hyH100
    have hyH102 := hb1 _ _ hyH102
    have hyH104 := hb1 _ _ hyH104
    have hP : va_P G.1 vwCl ((qq, .inl (G.2.1 2, qA (4) (va_up (va_up (va_up (va_up (fun _ => none) (0) (some yH98)) (1) (some yH100)) (2) (some yH102)) (3) (some yH104)))) :: (x, .inr (1, [.ref fl, .int (nI (puts + 4))])) :: (fl, .inl (G.2.1 1, qA (4) (g))) :: hps G hp ar cap N f) H105 := hP
    have hD : va_D A ((qq, .inl (G.2.1 2, qA (4) (va_up (va_up (va_up (va_up (fun _ => none) (0) (some yH98)) (1) (some yH100)) (2) (some yH102)) (3) (some yH104)))) :: (x, .inr (1, [.ref fl, .int (nI (puts + 4))])) :: (fl, .inl (G.2.1 1, qA (4) (g))) :: hps G hp ar cap N f) := hD
    refine lv_astore (lv' := [(6, .ref qq), (0, .ref x), (1, .int r), (2, .int e0), (3, .int e1), (4, .int e2), (5, .int e3)]) hx hb dX0_four_67 hl (by decide) rfl (fun ls hl => ?_)
    refine lv_iload_n hx hb dX0_four_69 rfl (lv_at hl 2 rfl) ?_
    refine lv_iconst (v := nI 3) hx hb dX0_four_70 (by decide) ?_
    refine lv_iand hx hb dX0_four_71 ?_
    refine lv_tn (nI (j)) (hra) ?_
    refine lv_istore (lv' := [(7, .int (nI j)), (6, .ref qq), (0, .ref x), (1, .int r), (2, .int e0), (3, .int e1), (4, .int e2), (5, .int e3)]) hx hb dX0_four_72 hl (by decide) rfl (fun ls hl => ?_)
    refine lv_aload_n hx hb dX0_four_74 rfl (lv_at hl 2 rfl) ?_
    refine va_get (D := G.1) (ci := 1) (v := .ref fl) (C := RX0) (T := TX0) (N := 2) hx hb hts in_X0 hown hK hP 1 rfl rfl 0 (by decide) (hts _ q186) (fun _ h9 => h9) rfl dX0_four_75 ?_
    refine lv_iload hx hb dX0_four_78 (lv_at hl 0 rfl) ?_
    refine lv_iload hx hb dX0_four_80 (lv_at hl 0 rfl) ?_
    refine lv_iconst (v := nI 2) hx hb dX0_four_82 (by decide) ?_
    refine bn_ge (tgt := 98) hx hb dX0_four_83 (by decide) (by omega) (by omega) (fun c2 => ?_) (fun c2 => ?_)
    · have eu : upq j = false := decide_eq_false (by omega)
      refine lv_iload hx hb dX0_four_98 (lv_at hl 0 rfl) ?_
      refine lv_tn (nI (dd j)) (congrArg nI (by unfold dd; omega)) ?_
      refine lv_aload hx hb dX0_four_100 (lv_at hl 1 rfl) ?_
      refine va_gets (C := "DaryArrayHeapDesk") (n := "DOWN") (d := "LDaryArrayHeapDesk$Down;") hx hb hG.zDown hS hown (hts _ q181) (fun _ h9 => h9) dX0_four_102 ?_
      have hPr := va_P.left (w1 := [(qq, .inl (G.2.1 2, qA (4) (va_up (va_up (va_up (va_up (fun _ => none) (0) (some yH98)) (1) (some yH100)) (2) (some yH102)) (3) (some yH104))))]) (w2 := ((x, .inr (1, [.ref fl, .int (nI (puts + 4))])) :: (fl, .inl (G.2.1 1, qA (4) (g))) :: hps G hp ar cap N f)) hP
      have hDr := va_D.left (w1 := [(qq, .inl (G.2.1 2, qA (4) (va_up (va_up (va_up (va_up (fun _ => none) (0) (some yH98)) (1) (some yH100)) (2) (some yH102)) (3) (some yH104))))]) (w2 := ((x, .inr (1, [.ref fl, .int (nI (puts + 4))])) :: (fl, .inl (G.2.1 1, qA (4) (g))) :: hps G hp ar cap N f)) hD
      have hFc := freeL hDr hS hA
      have hg : ∀ i : Nat, i < 4 → ∃ y : Nat, (va_up (va_up (va_up (va_up (fun _ => none) (0) (some yH98)) (1) (some yH100)) (2) (some yH102)) (3) (some yH104)) i = some y ∧ bx G H105 y ((f4 (nI k0) (nI k1) (nI k2) (nI k3)) i) := fun i hi => by
        match i, hi with
        | 0, _ => exact ⟨yH98, rfl, hyH98⟩
        | 1, _ => exact ⟨yH100, rfl, hyH100⟩
        | 2, _ => exact ⟨yH102, rfl, hyH102⟩
        | 3, _ => exact ⟨yH104, rfl, hyH104⟩
      refine va_callr (va_runS (As := [.int (nI (dd j)), .ref qq, .ref ((G.2.2 1))]) (rest := [.int (nI j), .ref fl]) ⟨hx, hb, hml, hown, hts⟩ (m_hpfC l G _ (dd j) qq _ (f4 (nI k0) (nI k1) (nI k2) (nI k3)) (dd_or j) hg hPr (hDr.weaken (fun _ _ _ _ => trivial))) (va_cwS 3 hts (lw_S q311 q312 q7 q313) rfl rfl rfl (by decide +kernel) ⟨Nat.le_of_ble_eq_true rfl, Nat.le_of_ble_eq_true rfl⟩) (PcG.s (hG.sub hS hFc)) rfl rfl hl.1 rfl (lv_room (Nat.le_of_ble_eq_true rfl)) dX0_four_105 ⟨Nat.le_of_ble_eq_true rfl, Nat.le_of_ble_eq_true rfl⟩) hS (fun q _ h => hFc q h) hFc (fun u ra t H106 locs ht hvm hw hB hz1 hk1 hS => ?_)
      try dsimp only at hB
      try dsimp only at hw
      rw [ht] at hB
      obtain ⟨hP1, hD1, hb9⟩ := hB
      rw [← eu] at hP1 hD1 hw
      obtain ⟨hP, hD⟩ := joinL (w1 := [(qq, .inl (G.2.1 2, qA (4) (va_up (va_up (va_up (va_up (fun _ => none) (0) (some yH98)) (1) (some yH100)) (2) (some yH102)) (3) (some yH104))))]) (w2 := ((x, .inr (1, [.ref fl, .int (nI (puts + 4))])) :: (fl, .inl (G.2.1 1, qA (4) (g))) :: hps G hp ar cap N f)) (w3 := [(ra, .inr (0, [cV G (upq j), .ref ((u.1)), .int (nI 4), .int (nI 16), .int (nI (dd j))])), (u.1, .inl (G.2.1 0, qA (16 + 1) (u.2.1)))]) hP hD hk1 hFc hP1 hD1
      have hP : va_P G.1 vwCl ((ra, .inr (0, [cV G (upq j), .ref ((u.1)), .int (nI 4), .int (nI 16), .int (nI (dd j))])) :: (u.1, .inl (G.2.1 0, qA (16 + 1) (u.2.1))) :: (x, .inr (1, [.ref fl, .int (nI (puts + 4))])) :: (fl, .inl (G.2.1 1, qA (4) (g))) :: hps G hp ar cap N f) H106 := hP
      have hD : va_D A ((ra, .inr (0, [cV G (upq j), .ref ((u.1)), .int (nI 4), .int (nI 16), .int (nI (dd j))])) :: (u.1, .inl (G.2.1 0, qA (16 + 1) (u.2.1))) :: (x, .inr (1, [.ref fl, .int (nI (puts + 4))])) :: (fl, .inl (G.2.1 1, qA (4) (g))) :: hps G hp ar cap N f) := hD
      have hP0 := hP
      refine qst (C := "DaryArrayHeap") hx hb hK hP hD hS 3 1 rfl rfl (va_recv hK hP (ci := 0) (q0 := 0) (q := (RX3, TX3, 5)) rfl rfl) vb_asgS (hj4) (by decide) dX0_four_108 (fun H107 locs hP hD hS hoq => ?_)
      have hb1 : bK G H106 H107 := bK.one hK (hP0 3 _ rfl) ⟨1, by decide, rfl⟩ hoq
      have hb9 := hb9.kept hb1
      have hP : va_P G.1 vwCl ((ra, .inr (0, [cV G (upq j), .ref ((u.1)), .int (nI 4), .int (nI 16), .int (nI (dd j))])) :: (u.1, .inl (G.2.1 0, qA (16 + 1) (u.2.1))) :: (x, .inr (1, [.ref fl, .int (nI (puts + 4))])) :: (fl, .inl (G.2.1 1, qA (4) (va_up (g) (j) (some ra)))) :: hps G hp ar cap N f) H107 := hP
      have hD : va_D A ((ra, .inr (0, [cV G (upq j), .ref ((u.1)), .int (nI 4), .int (nI 16), .int (nI (dd j))])) :: (u.1, .inl (G.2.1 0, qA (16 + 1) (u.2.1))) :: (x, .inr (1, [.ref fl, .int (nI (puts + 4))])) :: (fl, .inl (G.2.1 1, qA (4) (va_up (g) (j) (some ra)))) :: hps G hp ar cap N f) := hD
      refine lv_iconst (v := nI 1) hx hb dX0_four_109 (by decide) ?_
      obtain ⟨hP, hD⟩ := dsk_new hj4 hP hD
      have hsu := sum_up (n := N) (n' := 4) hj4
      have hok2 := hok.upd (j := j) (n' := 4) (cap' := 16) (puts' := puts + 4) (hbk _ _ hS) (by omega) (by omega) (by decide) (by decide) (by decide) hw.2 hb9
      obtain ⟨w9, hfin⟩ : ∃ w9 : va_W, Dk G A H107 x w9 (puts + 4) (va_up N j 4) (cFour C j (e0 &&& 65535) (e1 &&& 65535) (e2 &&& 65535) (e3 &&& 65535)) := by
        refine ⟨_, fl, _, _, _, _, _, _, rfl, ⟨fun i hi => ?_, hok2.2⟩, by rw [ek0, ek1, ek2, ek3]; exact cFour_ok hC hw.1, hP, hD⟩
        by_cases hij : i = j
        · rw [hij, va_up_self, va_up_self]
        · rw [va_up_ne _ _ hij, va_up_ne _ _ hij]; exact hok.1 i hi
      refine W.widen (k := 7) (n := 30) (by decide) (by decide) ?_
      exact W.zret (v := nI 1) hx hb hr rfl (fun t ht hW => ⟨⟨nI 1, (w9, puts + 4, va_up N j 4, cFour C j (e0 &&& 65535) (e1 &&& 65535) (e2 &&& 65535) (e3 &&& 65535)), rfl, ⟨fun _ => ⟨rfl, rfl⟩, fun z => absurd c1 z⟩, by dsimp only; rw [ht]; exact hfin⟩, hS.F ht⟩) hS.2.2 dX0_four_110
    · have eu : upq j = true := decide_eq_true (by omega)
      refine lv_iconst (v := nI 2) hx hb dX0_four_86 (by decide) ?_
      refine lv_iload hx hb dX0_four_87 (lv_at hl 0 rfl) ?_
      refine lv_iadd hx hb dX0_four_89 ?_
      refine lv_tn (nI (dd j)) ((nI_add _ _).trans (congrArg nI (by unfold dd; omega))) ?_
      refine lv_aload hx hb dX0_four_90 (lv_at hl 1 rfl) ?_
      have hPr := va_P.left (w1 := [(qq, .inl (G.2.1 2, qA (4) (va_up (va_up (va_up (va_up (fun _ => none) (0) (some yH98)) (1) (some yH100)) (2) (some yH102)) (3) (some yH104))))]) (w2 := ((x, .inr (1, [.ref fl, .int (nI (puts + 4))])) :: (fl, .inl (G.2.1 1, qA (4) (g))) :: hps G hp ar cap N f)) hP
      have hDr := va_D.left (w1 := [(qq, .inl (G.2.1 2, qA (4) (va_up (va_up (va_up (va_up (fun _ => none) (0) (some yH98)) (1) (some yH100)) (2) (some yH102)) (3) (some yH104))))]) (w2 := ((x, .inr (1, [.ref fl, .int (nI (puts + 4))])) :: (fl, .inl (G.2.1 1, qA (4) (g))) :: hps G hp ar cap N f)) hD
      have hFc := freeL hDr hS hA
      have hg : ∀ i : Nat, i < 4 → ∃ y : Nat, (va_up (va_up (va_up (va_up (fun _ => none) (0) (some yH98)) (1) (some yH100)) (2) (some yH102)) (3) (some yH104)) i = some y ∧ bx G H105 y ((f4 (nI k0) (nI k1) (nI k2) (nI k3)) i) := fun i hi => by
        match i, hi with
        | 0, _ => exact ⟨yH98, rfl, hyH98⟩
        | 1, _ => exact ⟨yH100, rfl, hyH100⟩
        | 2, _ => exact ⟨yH102, rfl, hyH102⟩
        | 3, _ => exact ⟨yH104, rfl, hyH104⟩
      refine va_callr (va_runS (As := [.int (nI (dd j)), .ref qq]) (rest := [.int (nI j), .ref fl]) ⟨hx, hb, hml, hown, hts⟩ (m_hpf l G _ (dd j) qq _ (f4 (nI k0) (nI k1) (nI k2) (nI k3)) (dd_or j) hg hPr (hDr.weaken (fun _ _ _ _ => trivial))) (va_cwS 2 hts (lw_S q298 q299 q7 q300) rfl rfl rfl (by decide +kernel) ⟨Nat.le_of_ble_eq_true rfl, Nat.le_of_ble_eq_true rfl⟩) (PcG.s (hG.sub hS hFc)) rfl rfl hl.1 rfl (lv_room (Nat.le_of_ble_eq_true rfl)) dX0_four_92 ⟨Nat.le_of_ble_eq_true rfl, Nat.le_of_ble_eq_true rfl⟩) hS (fun q _ h => hFc q h) hFc (fun u ra t H108 locs ht hvm hw hB hz1 hk1 hS => ?_)
      try dsimp only at hB
      try dsimp only at hw
      rw [ht] at hB
      obtain ⟨hP1, hD1, hb9⟩ := hB
      rw [← eu] at hP1 hD1 hw
      obtain ⟨hP, hD⟩ := joinL (w1 := [(qq, .inl (G.2.1 2, qA (4) (va_up (va_up (va_up (va_up (fun _ => none) (0) (some yH98)) (1) (some yH100)) (2) (some yH102)) (3) (some yH104))))]) (w2 := ((x, .inr (1, [.ref fl, .int (nI (puts + 4))])) :: (fl, .inl (G.2.1 1, qA (4) (g))) :: hps G hp ar cap N f)) (w3 := [(ra, .inr (0, [cV G (upq j), .ref ((u.1)), .int (nI 4), .int (nI 16), .int (nI (dd j))])), (u.1, .inl (G.2.1 0, qA (16 + 1) (u.2.1)))]) hP hD hk1 hFc hP1 hD1
      have hP : va_P G.1 vwCl ((ra, .inr (0, [cV G (upq j), .ref ((u.1)), .int (nI 4), .int (nI 16), .int (nI (dd j))])) :: (u.1, .inl (G.2.1 0, qA (16 + 1) (u.2.1))) :: (x, .inr (1, [.ref fl, .int (nI (puts + 4))])) :: (fl, .inl (G.2.1 1, qA (4) (g))) :: hps G hp ar cap N f) H108 := hP
      have hD : va_D A ((ra, .inr (0, [cV G (upq j), .ref ((u.1)), .int (nI 4), .int (nI 16), .int (nI (dd j))])) :: (u.1, .inl (G.2.1 0, qA (16 + 1) (u.2.1))) :: (x, .inr (1, [.ref fl, .int (nI (puts + 4))])) :: (fl, .inl (G.2.1 1, qA (4) (g))) :: hps G hp ar cap N f) := hD
      refine lv_goto (tgt := 108) hx hb dX0_four_95 (by decide) ?_
      have hP0 := hP
      refine qst (C := "DaryArrayHeap") hx hb hK hP hD hS 3 1 rfl rfl (va_recv hK hP (ci := 0) (q0 := 0) (q := (RX3, TX3, 5)) rfl rfl) vb_asgS (hj4) (by decide) dX0_four_108 (fun H109 locs hP hD hS hoq => ?_)
      have hb1 : bK G H108 H109 := bK.one hK (hP0 3 _ rfl) ⟨1, by decide, rfl⟩ hoq
      have hb9 := hb9.kept hb1
      have hP : va_P G.1 vwCl ((ra, .inr (0, [cV G (upq j), .ref ((u.1)), .int (nI 4), .int (nI 16), .int (nI (dd j))])) :: (u.1, .inl (G.2.1 0, qA (16 + 1) (u.2.1))) :: (x, .inr (1, [.ref fl, .int (nI (puts + 4))])) :: (fl, .inl (G.2.1 1, qA (4) (va_up (g) (j) (some ra)))) :: hps G hp ar cap N f) H109 := hP
      have hD : va_D A ((ra, .inr (0, [cV G (upq j), .ref ((u.1)), .int (nI 4), .int (nI 16), .int (nI (dd j))])) :: (u.1, .inl (G.2.1 0, qA (16 + 1) (u.2.1))) :: (x, .inr (1, [.ref fl, .int (nI (puts + 4))])) :: (fl, .inl (G.2.1 1, qA (4) (va_up (g) (j) (some ra)))) :: hps G hp ar cap N f) := hD
      refine lv_iconst (v := nI 1) hx hb dX0_four_109 (by decide) ?_
      obtain ⟨hP, hD⟩ := dsk_new hj4 hP hD
      have hsu := sum_up (n := N) (n' := 4) hj4
      have hok2 := hok.upd (j := j) (n' := 4) (cap' := 16) (puts' := puts + 4) (hbk _ _ hS) (by omega) (by omega) (by decide) (by decide) (by decide) hw.2 hb9
      obtain ⟨w9, hfin⟩ : ∃ w9 : va_W, Dk G A H109 x w9 (puts + 4) (va_up N j 4) (cFour C j (e0 &&& 65535) (e1 &&& 65535) (e2 &&& 65535) (e3 &&& 65535)) := by
        refine ⟨_, fl, _, _, _, _, _, _, rfl, ⟨fun i hi => ?_, hok2.2⟩, by rw [ek0, ek1, ek2, ek3]; exact cFour_ok hC hw.1, hP, hD⟩
        by_cases hij : i = j
        · rw [hij, va_up_self, va_up_self]
        · rw [va_up_ne _ _ hij, va_up_ne _ _ hij]; exact hok.1 i hi
      refine W.widen (k := 7) (n := 30) (by decide) (by decide) ?_
      exact W.zret (v := nI 1) hx hb hr rfl (fun t ht hW => ⟨⟨nI 1, (w9, puts + 4, va_up N j 4, cFour C j (e0 &&& 65535) (e1 &&& 65535) (e2 &&& 65535) (e3 &&& 65535)), rfl, ⟨fun _ => ⟨rfl, rfl⟩, fun z => absurd c1 z⟩, by dsimp only; rw [ht]; exact hfin⟩, hS.F ht⟩) hS.2.2 dX0_four_110
  · refine lv_iconst (v := nI 0) hx hb dX0_four_9 (by decide) ?_
    refine W.widen (k := 7) (n := 30) (by decide) (by decide) ?_
    exact W.zret (v := nI 0) hx hb hr rfl (fun t ht hW => ⟨⟨nI 0, (ws0, puts, N, C), rfl, ⟨fun z => absurd z (by omega), fun _ => ⟨rfl, rfl⟩⟩, by dsimp only; rw [ht]; exact hDk0⟩, hS.F ht⟩) hS.2.2 dX0_four_10
set_option maxHeartbeats 4000000 in
set_option maxRecDepth 100000 in
/-- fresh(i) -/
theorem m_fresh (l : Launch) (G : gG) (H0 : Heap) (i : Nat) (hi : i < 4) : Met l yX0_fresh (ws_ yX0_fresh cX0_fresh 1 (some (.object "DaryArrayHeap"))) ({ frames := 5, cells := 2, slots := 22, locals := 110 }) (PcG G [.int (nI i)] H0 (va_A [] H0.size)) (va_Qr (fun _ : Nat => True) (fun u h t => va_P G.1 vwCl (wH G h u 16 0 (dd i) (cV G (upq i)) (fun _ => none)) t.heap ∧ va_D (va_A [] H0.size) (wH G h u 16 0 (dd i) (cV G (upq i)) (fun _ => none))) (va_A [] H0.size)) 2 22 (va_A [] H0.size) := by
  have hP : va_P G.1 vwCl [] H0 := fun k q h => by cases h
  have hD : va_D (fun _ => True) [] := ⟨fun i j x y h => (by cases h), fun i x h => (by cases h)⟩
  refine Met.ofW (cc := cX0_fresh) (maxL := 1) (ret := (some (.object "DaryArrayHeap"))) (by decide) rfl ?_
  intro p e s m args below meth c s₁ B hml hv
  obtain ⟨rfl, rfl, hG⟩ := hv
  have hx := B.exec
  have hb := B.bytes
  have hr := B.returns
  have hts := atoms_spec (ws := ws_ yX0_fresh cX0_fresh 1 (some (.object "DaryArrayHeap"))) B.pre
  have hts : ∀ w ∈ lw_all, w.before _ s = true := fun w h => hts w (List.mem_cons_of_mem _ h)
  have hown : s.vm.findClass RX0 = some m.cls := findClass_of_methodNamed B.named
  have hlocks := B.notSynchronized
  have hK := hG.K
  have hbk : ∀ (H : Heap) (locs : List Loc), va_S (va_A [] s.heap.size) s.heap H locs → bK G s.heap H := fun H locs h => bK.of hK hP (nI_nil) h.2.1
  have hD := hD.self (sz := s.heap.size)
  generalize hAe : va_A [] s.heap.size = A at hD hG hbk ⊢
  have hA : ∀ q : Nat, s.heap.size ≤ q → A q := fun q h => by rw [← hAe]; exact Or.inr h
  have hS : va_S A s.heap s.heap [] := va_S.rf
  have hl := lv_entry ([.int (nI i)]) (n := 1) (Nat.le_of_ble_eq_true rfl)
  rw [lg_entry_eq]
  generalize (lg_sl ([.int (nI i)]) ++ List.replicate (1 - (lg_sl ([.int (nI i)])).length) Slot.unset).toArray = ls at hl ⊢
  have hl : lv_has ls 1 [(0, .int (nI i))] := hl
  refine lv_iload_n hx hb dX0_fresh_0 rfl (lv_at hl 0 rfl) ?_
  refine lv_iconst (v := nI 2) hx hb dX0_fresh_1 (by decide) ?_
  refine bn_ge (tgt := 18) hx hb dX0_fresh_2 (by decide) (by omega) (by omega) (fun c1 => ?_) (fun c1 => ?_)
  · have eu : upq i = false := decide_eq_false (by omega)
    refine va_new (ci := 0) (fs := [.null, .null, .int (nI 0), .int (nI 0), .int (nI 0)]) (C := RX3) (T := TX3) (N := 5) hx hb hts in_X3 tyX3 tyX3_ok hown (hts _ q31) (hts _ q36) (hts _ q7) hK hP hD hS hA rfl (fun j hj => by rcases (show j = 0 ∨ j = 1 ∨ j = 2 ∨ j = 3 ∨ j = 4 by omega) with rfl | rfl | rfl | rfl | rfl <;> rfl) (Nat.le_of_ble_eq_true rfl) (Nat.le_of_ble_eq_true rfl) dX0_fresh_18 (fun h H110 hP hD hS => ?_)
    have hP : va_P G.1 vwCl [(h, .inr (0, [.null, .null, .int (nI 0), .int (nI 0), .int (nI 0)]))] H110 := hP
    have hD : va_D A [(h, .inr (0, [.null, .null, .int (nI 0), .int (nI 0), .int (nI 0)]))] := hD
    refine lv_dup hx hb dX0_fresh_21 rfl ?_
    refine lv_iload_n hx hb dX0_fresh_22 rfl (lv_at hl 0 rfl) ?_
    refine lv_tn (nI (dd i)) (congrArg nI (by unfold dd; omega)) ?_
    refine va_gets (C := "DaryArrayHeapDesk") (n := "DOWN") (d := "LDaryArrayHeapDesk$Down;") hx hb hG.zDown hS hown (hts _ q181) (fun _ h9 => h9) dX0_fresh_23 ?_
    have hPc := hP.sub (ws' := [(h, .inr (0, [.null, .null, .int (nI 0), .int (nI 0), .int (nI 0)]))]) [0] rfl
    have hDc := hD.sub (ws' := [(h, .inr (0, [.null, .null, .int (nI 0), .int (nI 0), .int (nI 0)]))]) [0] (by decide) rfl
    have hFc := va_free (wc := [(h, .inr (0, [.null, .null, .int (nI 0), .int (nI 0), .int (nI 0)]))]) hD hS hA [0] rfl
    refine va_callv (va_runI (As := [.int (nI (dd i)), .ref ((G.2.2 1))]) (rest := [.ref h]) ⟨hx, hb, hml, hown, hts⟩ (m_dI3 l G _ h (dd i) (dd_or i) hPc (hDc.weaken (fun _ _ _ _ => trivial))) (cwI 2 hts (lw_meth q185) rfl rfl rfl (hts _ q7) (hts _ q183) (hts _ q184) rfl (by decide +kernel) ⟨Nat.le_of_ble_eq_true rfl, Nat.le_of_ble_eq_true rfl⟩) (PcG.s (hG.sub hS hFc)) rfl rfl hl.1 rfl (lv_room (Nat.le_of_ble_eq_true rfl)) dX0_fresh_26 ⟨Nat.le_of_ble_eq_true rfl, Nat.le_of_ble_eq_true rfl⟩) hS (fun q _ h => hFc q h) hFc (fun u t H111 locs ht hvm hw hB hz1 hk1 hS => ?_)
    try dsimp only at hB
    rw [ht] at hB
    obtain ⟨hP, hD1⟩ := hB
    rw [← eu] at hP hD1
    refine W.widen (k := 2) (n := 22) (by decide) (by decide) ?_
    exact W.aret (v := .ref h) hx hb hr (Or.inl ⟨_, rfl⟩) (Or.inr ⟨_, rfl⟩) (fun t ht hW => ⟨⟨u, h, rfl, trivial, by rw [ht]; exact hP, hD1.weaken (fun _ q _ h => hFc q.1 h)⟩, hS.F ht⟩) hS.2.2 dX0_fresh_29
  · have eu : upq i = true := decide_eq_true (by omega)
    refine va_new (ci := 0) (fs := [.null, .null, .int (nI 0), .int (nI 0), .int (nI 0)]) (C := RX3) (T := TX3) (N := 5) hx hb hts in_X3 tyX3 tyX3_ok hown (hts _ q31) (hts _ q36) (hts _ q7) hK hP hD hS hA rfl (fun j hj => by rcases (show j = 0 ∨ j = 1 ∨ j = 2 ∨ j = 3 ∨ j = 4 by omega) with rfl | rfl | rfl | rfl | rfl <;> rfl) (Nat.le_of_ble_eq_true rfl) (Nat.le_of_ble_eq_true rfl) dX0_fresh_5 (fun h H112 hP hD hS => ?_)
    have hP : va_P G.1 vwCl [(h, .inr (0, [.null, .null, .int (nI 0), .int (nI 0), .int (nI 0)]))] H112 := hP
    have hD : va_D A [(h, .inr (0, [.null, .null, .int (nI 0), .int (nI 0), .int (nI 0)]))] := hD
    refine lv_dup hx hb dX0_fresh_8 rfl ?_
    refine lv_iconst (v := nI 2) hx hb dX0_fresh_9 (by decide) ?_
    refine lv_iload_n hx hb dX0_fresh_10 rfl (lv_at hl 0 rfl) ?_
    refine lv_iadd hx hb dX0_fresh_11 ?_
    refine lv_tn (nI (dd i)) ((nI_add _ _).trans (congrArg nI (by unfold dd; omega))) ?_
    have hPc := hP.sub (ws' := [(h, .inr (0, [.null, .null, .int (nI 0), .int (nI 0), .int (nI 0)]))]) [0] rfl
    have hDc := hD.sub (ws' := [(h, .inr (0, [.null, .null, .int (nI 0), .int (nI 0), .int (nI 0)]))]) [0] (by decide) rfl
    have hFc := va_free (wc := [(h, .inr (0, [.null, .null, .int (nI 0), .int (nI 0), .int (nI 0)]))]) hD hS hA [0] rfl
    refine va_callv (va_runI (As := [.int (nI (dd i))]) (rest := [.ref h]) ⟨hx, hb, hml, hown, hts⟩ (m_dI1 l G _ h (dd i) (dd_or i) hPc (hDc.weaken (fun _ _ _ _ => trivial))) (cwI 1 hts (lw_meth q39) rfl rfl rfl (hts _ q7) (hts _ q37) (hts _ q38) rfl (by decide +kernel) ⟨Nat.le_of_ble_eq_true rfl, Nat.le_of_ble_eq_true rfl⟩) (PcG.s (hG.sub hS hFc)) rfl rfl hl.1 rfl (lv_room (Nat.le_of_ble_eq_true rfl)) dX0_fresh_12 ⟨Nat.le_of_ble_eq_true rfl, Nat.le_of_ble_eq_true rfl⟩) hS (fun q _ h => hFc q h) hFc (fun u t H113 locs ht hvm hw hB hz1 hk1 hS => ?_)
    try dsimp only at hB
    rw [ht] at hB
    refine lv_goto (tgt := 29) hx hb dX0_fresh_15 (by decide) ?_
    obtain ⟨hP, hD1⟩ := hB
    rw [← eu] at hP hD1
    refine W.widen (k := 2) (n := 22) (by decide) (by decide) ?_
    exact W.aret (v := .ref h) hx hb hr (Or.inl ⟨_, rfl⟩) (Or.inr ⟨_, rfl⟩) (fun t ht hW => ⟨⟨u, h, rfl, trivial, by rw [ht]; exact hP, hD1.weaken (fun _ q _ h => hFc q.1 h)⟩, hS.F ht⟩) hS.2.2 dX0_fresh_29
set_option maxHeartbeats 4000000 in
set_option maxRecDepth 100000 in
/-- make(): the file with its four heaps -/
theorem m_make (l : Launch) (G : gG) (H0 : Heap)  : Met l yX0_make (ws_ yX0_make cX0_make 2 (some (.array (.object "DaryArrayHeap")))) ({ frames := 6, cells := 9, slots := 92, locals := 130 }) (PcG G [] H0 (va_A [] H0.size)) (va_Qr (fun u : (Nat → Option Nat) × (Nat → Nat) × (Nat → Nat) => ∀ i : Nat, i < 4 → u.1 i = some (u.2.1 i)) (fun u fl t => va_P G.1 vwCl ((fl, .inl (G.2.1 1, qA 4 u.1)) :: hps G u.2.1 u.2.2 (fun _ => 16) (fun _ => 0) (fun _ _ => none)) t.heap ∧ va_D (va_A [] H0.size) ((fl, .inl (G.2.1 1, qA 4 u.1)) :: hps G u.2.1 u.2.2 (fun _ => 16) (fun _ => 0) (fun _ _ => none))) (va_A [] H0.size)) 9 92 (va_A [] H0.size) := by
  have hP : va_P G.1 vwCl [] H0 := fun k q h => by cases h
  have hD : va_D (fun _ => True) [] := ⟨fun i j x y h => (by cases h), fun i x h => (by cases h)⟩
  refine Met.ofW (cc := cX0_make) (maxL := 2) (ret := (some (.array (.object "DaryArrayHeap")))) (by decide) rfl ?_
  intro p e s m args below meth c s₁ B hml hv
  obtain ⟨rfl, rfl, hG⟩ := hv
  have hx := B.exec
  have hb := B.bytes
  have hr := B.returns
  have hts := atoms_spec (ws := ws_ yX0_make cX0_make 2 (some (.array (.object "DaryArrayHeap")))) B.pre
  have hts : ∀ w ∈ lw_all, w.before _ s = true := fun w h => hts w (List.mem_cons_of_mem _ h)
  have hown : s.vm.findClass RX0 = some m.cls := findClass_of_methodNamed B.named
  have hlocks := B.notSynchronized
  have hK := hG.K
  have hbk : ∀ (H : Heap) (locs : List Loc), va_S (va_A [] s.heap.size) s.heap H locs → bK G s.heap H := fun H locs h => bK.of hK hP (nI_nil) h.2.1
  have hD := hD.self (sz := s.heap.size)
  generalize hAe : va_A [] s.heap.size = A at hD hG hbk ⊢
  have hA : ∀ q : Nat, s.heap.size ≤ q → A q := fun q h => by rw [← hAe]; exact Or.inr h
  have hS : va_S A s.heap s.heap [] := va_S.rf
  have hl := lv_entry ([]) (n := 2) (Nat.le_of_ble_eq_true rfl)
  rw [lg_entry_eq]
  generalize (lg_sl ([]) ++ List.replicate (2 - (lg_sl ([])).length) Slot.unset).toArray = ls at hl ⊢
  have hl : lv_has ls 2 [] := hl
  refine lv_iconst (v := nI 4) hx hb dX0_make_0 (by decide) ?_
  refine nwq (C := "DaryArrayHeap") hx hb hown (hts _ q31) hG.N.aoH hK 1 rfl hP hD hS hA (by decide) (Nat.le_of_ble_eq_true rfl) (Nat.le_of_ble_eq_true rfl) dX0_make_1 (fun fl H114 hP hD hS => ?_)
  have hP : va_P G.1 vwCl [(fl, .inl (G.2.1 1, qA (4) (fun _ => none)))] H114 := hP
  have hD : va_D A [(fl, .inl (G.2.1 1, qA (4) (fun _ => none)))] := hD
  refine lv_astore_n (lv' := [(0, .ref fl)]) hx hb dX0_make_4 rfl hl (by decide) rfl (fun ls hl => ?_)
  refine lv_iconst (v := nI 0) hx hb dX0_make_5 (by decide) ?_
  refine lv_istore_n (lv' := [(1, .int (nI 0)), (0, .ref fl)]) hx hb dX0_make_6 rfl hl (by decide) rfl (fun ls hl => ?_)
  refine lv_iload_n hx hb dX0_make_7 rfl (lv_at hl 0 rfl) ?_
  refine lv_iconst (v := nI 4) hx hb dX0_make_8 (by decide) ?_
  refine bn_ge (tgt := 25) hx hb dX0_make_9 (by decide) (by omega) (by omega) (fun c0 => ?_) (fun c0 => ?_)
  · exact absurd c0 (by decide)
  · refine lv_aload_n hx hb dX0_make_12 rfl (lv_at hl 1 rfl) ?_
    refine lv_iload_n hx hb dX0_make_13 rfl (lv_at hl 0 rfl) ?_
    refine lv_iload_n hx hb dX0_make_14 rfl (lv_at hl 0 rfl) ?_
    have hFc := va_free (wc := []) hD hS hA [] rfl
    refine va_callr (va_runS (As := [.int (nI 0)]) (rest := [.int (nI 0), .ref fl]) ⟨hx, hb, hml, hown, hts⟩ (m_fresh l G _ 0 (by decide)) (va_cwS 1 hts (lw_S q33 q34 q4 q35) rfl rfl rfl (by decide +kernel) ⟨Nat.le_of_ble_eq_true rfl, Nat.le_of_ble_eq_true rfl⟩) (PcG.s (hG.sub hS hFc)) rfl rfl hl.1 rfl (lv_room (Nat.le_of_ble_eq_true rfl)) dX0_make_15 ⟨Nat.le_of_ble_eq_true rfl, Nat.le_of_ble_eq_true rfl⟩) hS (fun q _ h => hFc q h) hFc (fun u0 h0 t H115 locs ht hvm hw hB hz1 hk1 hS => ?_)
    try dsimp only at hB
    rw [ht] at hB
    obtain ⟨hP1, hD1⟩ := hB
    obtain ⟨hP, hD⟩ := joinL (w1 := []) (w2 := [(fl, .inl (G.2.1 1, qA (4) (fun _ => none)))]) (w3 := [(h0, .inr (0, [cV G (upq 0), .ref u0, .int (nI 0), .int (nI 16), .int (nI (dd 0))])), (u0, .inl (G.2.1 0, qA (16 + 1) (fun _ => none)))]) hP hD hk1 hFc hP1 hD1
    have hP : va_P G.1 vwCl [(h0, .inr (0, [cV G (upq 0), .ref u0, .int (nI 0), .int (nI 16), .int (nI (dd 0))])), (u0, .inl (G.2.1 0, qA (16 + 1) (fun _ => none))), (fl, .inl (G.2.1 1, qA (4) (fun _ => none)))] H115 := hP
    have hD : va_D A [(h0, .inr (0, [cV G (upq 0), .ref u0, .int (nI 0), .int (nI 16), .int (nI (dd 0))])), (u0, .inl (G.2.1 0, qA (16 + 1) (fun _ => none))), (fl, .inl (G.2.1 1, qA (4) (fun _ => none)))] := hD
    refine qst (C := "DaryArrayHeap") hx hb hK hP hD hS 2 1 rfl rfl (va_recv hK hP (ci := 0) (q0 := 0) (q := (RX3, TX3, 5)) rfl rfl) vb_asgS (by decide) (by decide) dX0_make_18 (fun H116 locs hP hD hS hoq => ?_)
    have hP : va_P G.1 vwCl [(h0, .inr (0, [cV G (upq 0), .ref u0, .int (nI 0), .int (nI 16), .int (nI (dd 0))])), (u0, .inl (G.2.1 0, qA (16 + 1) (fun _ => none))), (fl, .inl (G.2.1 1, qA (4) (va_up (fun _ => none) (0) (some h0))))] H116 := hP
    have hD : va_D A [(h0, .inr (0, [cV G (upq 0), .ref u0, .int (nI 0), .int (nI 16), .int (nI (dd 0))])), (u0, .inl (G.2.1 0, qA (16 + 1) (fun _ => none))), (fl, .inl (G.2.1 1, qA (4) (va_up (fun _ => none) (0) (some h0))))] := hD
    refine lv_iinc (v := nI 1) (lv' := [(1, .int (nI 1)), (0, .ref fl)]) hx hb dX0_make_19 hl (k := 0) rfl (by decide) (by decide) rfl (fun ls hl => ?_)
    refine lv_goto (tgt := 7) hx hb dX0_make_22 (by decide) ?_
    refine lv_iload_n hx hb dX0_make_7 rfl (lv_at hl 0 rfl) ?_
    refine lv_iconst (v := nI 4) hx hb dX0_make_8 (by decide) ?_
    refine bn_ge (tgt := 25) hx hb dX0_make_9 (by decide) (by omega) (by omega) (fun c1 => ?_) (fun c1 => ?_)
    · exact absurd c1 (by decide)
    · refine lv_aload_n hx hb dX0_make_12 rfl (lv_at hl 1 rfl) ?_
      refine lv_iload_n hx hb dX0_make_13 rfl (lv_at hl 0 rfl) ?_
      refine lv_iload_n hx hb dX0_make_14 rfl (lv_at hl 0 rfl) ?_
      have hFc := va_free (wc := []) hD hS hA [] rfl
      refine va_callr (va_runS (As := [.int (nI 1)]) (rest := [.int (nI 1), .ref fl]) ⟨hx, hb, hml, hown, hts⟩ (m_fresh l G _ 1 (by decide)) (va_cwS 1 hts (lw_S q33 q34 q4 q35) rfl rfl rfl (by decide +kernel) ⟨Nat.le_of_ble_eq_true rfl, Nat.le_of_ble_eq_true rfl⟩) (PcG.s (hG.sub hS hFc)) rfl rfl hl.1 rfl (lv_room (Nat.le_of_ble_eq_true rfl)) dX0_make_15 ⟨Nat.le_of_ble_eq_true rfl, Nat.le_of_ble_eq_true rfl⟩) hS (fun q _ h => hFc q h) hFc (fun u1 h1 t H117 locs ht hvm hw hB hz1 hk1 hS => ?_)
      try dsimp only at hB
      rw [ht] at hB
      obtain ⟨hP1, hD1⟩ := hB
      obtain ⟨hP, hD⟩ := joinL (w1 := []) (w2 := [(h0, .inr (0, [cV G (upq 0), .ref u0, .int (nI 0), .int (nI 16), .int (nI (dd 0))])), (u0, .inl (G.2.1 0, qA (16 + 1) (fun _ => none))), (fl, .inl (G.2.1 1, qA (4) (va_up (fun _ => none) (0) (some h0))))]) (w3 := [(h1, .inr (0, [cV G (upq 1), .ref u1, .int (nI 0), .int (nI 16), .int (nI (dd 1))])), (u1, .inl (G.2.1 0, qA (16 + 1) (fun _ => none)))]) hP hD hk1 hFc hP1 hD1
      have hP : va_P G.1 vwCl [(h1, .inr (0, [cV G (upq 1), .ref u1, .int (nI 0), .int (nI 16), .int (nI (dd 1))])), (u1, .inl (G.2.1 0, qA (16 + 1) (fun _ => none))), (h0, .inr (0, [cV G (upq 0), .ref u0, .int (nI 0), .int (nI 16), .int (nI (dd 0))])), (u0, .inl (G.2.1 0, qA (16 + 1) (fun _ => none))), (fl, .inl (G.2.1 1, qA (4) (va_up (fun _ => none) (0) (some h0))))] H117 := hP
      have hD : va_D A [(h1, .inr (0, [cV G (upq 1), .ref u1, .int (nI 0), .int (nI 16), .int (nI (dd 1))])), (u1, .inl (G.2.1 0, qA (16 + 1) (fun _ => none))), (h0, .inr (0, [cV G (upq 0), .ref u0, .int (nI 0), .int (nI 16), .int (nI (dd 0))])), (u0, .inl (G.2.1 0, qA (16 + 1) (fun _ => none))), (fl, .inl (G.2.1 1, qA (4) (va_up (fun _ => none) (0) (some h0))))] := hD
      refine qst (C := "DaryArrayHeap") hx hb hK hP hD hS 4 1 rfl rfl (va_recv hK hP (ci := 0) (q0 := 0) (q := (RX3, TX3, 5)) rfl rfl) vb_asgS (by decide) (by decide) dX0_make_18 (fun H118 locs hP hD hS hoq => ?_)
      have hP : va_P G.1 vwCl [(h1, .inr (0, [cV G (upq 1), .ref u1, .int (nI 0), .int (nI 16), .int (nI (dd 1))])), (u1, .inl (G.2.1 0, qA (16 + 1) (fun _ => none))), (h0, .inr (0, [cV G (upq 0), .ref u0, .int (nI 0), .int (nI 16), .int (nI (dd 0))])), (u0, .inl (G.2.1 0, qA (16 + 1) (fun _ => none))), (fl, .inl (G.2.1 1, qA (4) (va_up (va_up (fun _ => none) (0) (some h0)) (1) (some h1))))] H118 := hP
      have hD : va_D A [(h1, .inr (0, [cV G (upq 1), .ref u1, .int (nI 0), .int (nI 16), .int (nI (dd 1))])), (u1, .inl (G.2.1 0, qA (16 + 1) (fun _ => none))), (h0, .inr (0, [cV G (upq 0), .ref u0, .int (nI 0), .int (nI 16), .int (nI (dd 0))])), (u0, .inl (G.2.1 0, qA (16 + 1) (fun _ => none))), (fl, .inl (G.2.1 1, qA (4) (va_up (va_up (fun _ => none) (0) (some h0)) (1) (some h1))))] := hD
      refine lv_iinc (v := nI 2) (lv' := [(1, .int (nI 2)), (0, .ref fl)]) hx hb dX0_make_19 hl (k := 0) rfl (by decide) (by decide) rfl (fun ls hl => ?_)
      refine lv_goto (tgt := 7) hx hb dX0_make_22 (by decide) ?_
      refine lv_iload_n hx hb dX0_make_7 rfl (lv_at hl 0 rfl) ?_
      refine lv_iconst (v := nI 4) hx hb dX0_make_8 (by decide) ?_
      refine bn_ge (tgt := 25) hx hb dX0_make_9 (by decide) (by omega) (by omega) (fun c2 => ?_) (fun c2 => ?_)
      · exact absurd c2 (by decide)
      · refine lv_aload_n hx hb dX0_make_12 rfl (lv_at hl 1 rfl) ?_
        refine lv_iload_n hx hb dX0_make_13 rfl (lv_at hl 0 rfl) ?_
        refine lv_iload_n hx hb dX0_make_14 rfl (lv_at hl 0 rfl) ?_
        have hFc := va_free (wc := []) hD hS hA [] rfl
        refine va_callr (va_runS (As := [.int (nI 2)]) (rest := [.int (nI 2), .ref fl]) ⟨hx, hb, hml, hown, hts⟩ (m_fresh l G _ 2 (by decide)) (va_cwS 1 hts (lw_S q33 q34 q4 q35) rfl rfl rfl (by decide +kernel) ⟨Nat.le_of_ble_eq_true rfl, Nat.le_of_ble_eq_true rfl⟩) (PcG.s (hG.sub hS hFc)) rfl rfl hl.1 rfl (lv_room (Nat.le_of_ble_eq_true rfl)) dX0_make_15 ⟨Nat.le_of_ble_eq_true rfl, Nat.le_of_ble_eq_true rfl⟩) hS (fun q _ h => hFc q h) hFc (fun u2 h2 t H119 locs ht hvm hw hB hz1 hk1 hS => ?_)
        try dsimp only at hB
        rw [ht] at hB
        obtain ⟨hP1, hD1⟩ := hB
        obtain ⟨hP, hD⟩ := joinL (w1 := []) (w2 := [(h1, .inr (0, [cV G (upq 1), .ref u1, .int (nI 0), .int (nI 16), .int (nI (dd 1))])), (u1, .inl (G.2.1 0, qA (16 + 1) (fun _ => none))), (h0, .inr (0, [cV G (upq 0), .ref u0, .int (nI 0), .int (nI 16), .int (nI (dd 0))])), (u0, .inl (G.2.1 0, qA (16 + 1) (fun _ => none))), (fl, .inl (G.2.1 1, qA (4) (va_up (va_up (fun _ => none) (0) (some h0)) (1) (some h1))))]) (w3 := [(h2, .inr (0, [cV G (upq 2), .ref u2, .int (nI 0), .int (nI 16), .int (nI (dd 2))])), (u2, .inl (G.2.1 0, qA (16 + 1) (fun _ => none)))]) hP hD hk1 hFc hP1 hD1
        have hP : va_P G.1 vwCl [(h2, .inr (0, [cV G (upq 2), .ref u2, .int (nI 0), .int (nI 16), .int (nI (dd 2))])), (u2, .inl (G.2.1 0, qA (16 + 1) (fun _ => none))), (h1, .inr (0, [cV G (upq 1), .ref u1, .int (nI 0), .int (nI 16), .int (nI (dd 1))])), (u1, .inl (G.2.1 0, qA (16 + 1) (fun _ => none))), (h0, .inr (0, [cV G (upq 0), .ref u0, .int (nI 0), .int (nI 16), .int (nI (dd 0))])), (u0, .inl (G.2.1 0, qA (16 + 1) (fun _ => none))), (fl, .inl (G.2.1 1, qA (4) (va_up (va_up (fun _ => none) (0) (some h0)) (1) (some h1))))] H119 := hP
        have hD : va_D A [(h2, .inr (0, [cV G (upq 2), .ref u2, .int (nI 0), .int (nI 16), .int (nI (dd 2))])), (u2, .inl (G.2.1 0, qA (16 + 1) (fun _ => none))), (h1, .inr (0, [cV G (upq 1), .ref u1, .int (nI 0), .int (nI 16), .int (nI (dd 1))])), (u1, .inl (G.2.1 0, qA (16 + 1) (fun _ => none))), (h0, .inr (0, [cV G (upq 0), .ref u0, .int (nI 0), .int (nI 16), .int (nI (dd 0))])), (u0, .inl (G.2.1 0, qA (16 + 1) (fun _ => none))), (fl, .inl (G.2.1 1, qA (4) (va_up (va_up (fun _ => none) (0) (some h0)) (1) (some h1))))] := hD
        refine qst (C := "DaryArrayHeap") hx hb hK hP hD hS 6 1 rfl rfl (va_recv hK hP (ci := 0) (q0 := 0) (q := (RX3, TX3, 5)) rfl rfl) vb_asgS (by decide) (by decide) dX0_make_18 (fun H120 locs hP hD hS hoq => ?_)
        have hP : va_P G.1 vwCl [(h2, .inr (0, [cV G (upq 2), .ref u2, .int (nI 0), .int (nI 16), .int (nI (dd 2))])), (u2, .inl (G.2.1 0, qA (16 + 1) (fun _ => none))), (h1, .inr (0, [cV G (upq 1), .ref u1, .int (nI 0), .int (nI 16), .int (nI (dd 1))])), (u1, .inl (G.2.1 0, qA (16 + 1) (fun _ => none))), (h0, .inr (0, [cV G (upq 0), .ref u0, .int (nI 0), .int (nI 16), .int (nI (dd 0))])), (u0, .inl (G.2.1 0, qA (16 + 1) (fun _ => none))), (fl, .inl (G.2.1 1, qA (4) (va_up (va_up (va_up (fun _ => none) (0) (some h0)) (1) (some h1)) (2) (some h2))))] H120 := hP
        have hD : va_D A [(h2, .inr (0, [cV G (upq 2), .ref u2, .int (nI 0), .int (nI 16), .int (nI (dd 2))])), (u2, .inl (G.2.1 0, qA (16 + 1) (fun _ => none))), (h1, .inr (0, [cV G (upq 1), .ref u1, .int (nI 0), .int (nI 16), .int (nI (dd 1))])), (u1, .inl (G.2.1 0, qA (16 + 1) (fun _ => none))), (h0, .inr (0, [cV G (upq 0), .ref u0, .int (nI 0), .int (nI 16), .int (nI (dd 0))])), (u0, .inl (G.2.1 0, qA (16 + 1) (fun _ => none))), (fl, .inl (G.2.1 1, qA (4) (va_up (va_up (va_up (fun _ => none) (0) (some h0)) (1) (some h1)) (2) (some h2))))] := hD
        refine lv_iinc (v := nI 3) (lv' := [(1, .int (nI 3)), (0, .ref fl)]) hx hb dX0_make_19 hl (k := 0) rfl (by decide) (by decide) rfl (fun ls hl => ?_)
        refine lv_goto (tgt := 7) hx hb dX0_make_22 (by decide) ?_
        refine lv_iload_n hx hb dX0_make_7 rfl (lv_at hl 0 rfl) ?_
        refine lv_iconst (v := nI 4) hx hb dX0_make_8 (by decide) ?_
        refine bn_ge (tgt := 25) hx hb dX0_make_9 (by decide) (by omega) (by omega) (fun c3 => ?_) (fun c3 => ?_)
        · exact absurd c3 (by decide)
        · refine lv_aload_n hx hb dX0_make_12 rfl (lv_at hl 1 rfl) ?_
          refine lv_iload_n hx hb dX0_make_13 rfl (lv_at hl 0 rfl) ?_
          refine lv_iload_n hx hb dX0_make_14 rfl (lv_at hl 0 rfl) ?_
          have hFc := va_free (wc := []) hD hS hA [] rfl
          refine va_callr (va_runS (As := [.int (nI 3)]) (rest := [.int (nI 3), .ref fl]) ⟨hx, hb, hml, hown, hts⟩ (m_fresh l G _ 3 (by decide)) (va_cwS 1 hts (lw_S q33 q34 q4 q35) rfl rfl rfl (by decide +kernel) ⟨Nat.le_of_ble_eq_true rfl, Nat.le_of_ble_eq_true rfl⟩) (PcG.s (hG.sub hS hFc)) rfl rfl hl.1 rfl (lv_room (Nat.le_of_ble_eq_true rfl)) dX0_make_15 ⟨Nat.le_of_ble_eq_true rfl, Nat.le_of_ble_eq_true rfl⟩) hS (fun q _ h => hFc q h) hFc (fun u3 h3 t H121 locs ht hvm hw hB hz1 hk1 hS => ?_)
          try dsimp only at hB
          rw [ht] at hB
          obtain ⟨hP1, hD1⟩ := hB
          obtain ⟨hP, hD⟩ := joinL (w1 := []) (w2 := [(h2, .inr (0, [cV G (upq 2), .ref u2, .int (nI 0), .int (nI 16), .int (nI (dd 2))])), (u2, .inl (G.2.1 0, qA (16 + 1) (fun _ => none))), (h1, .inr (0, [cV G (upq 1), .ref u1, .int (nI 0), .int (nI 16), .int (nI (dd 1))])), (u1, .inl (G.2.1 0, qA (16 + 1) (fun _ => none))), (h0, .inr (0, [cV G (upq 0), .ref u0, .int (nI 0), .int (nI 16), .int (nI (dd 0))])), (u0, .inl (G.2.1 0, qA (16 + 1) (fun _ => none))), (fl, .inl (G.2.1 1, qA (4) (va_up (va_up (va_up (fun _ => none) (0) (some h0)) (1) (some h1)) (2) (some h2))))]) (w3 := [(h3, .inr (0, [cV G (upq 3), .ref u3, .int (nI 0), .int (nI 16), .int (nI (dd 3))])), (u3, .inl (G.2.1 0, qA (16 + 1) (fun _ => none)))]) hP hD hk1 hFc hP1 hD1
          have hP : va_P G.1 vwCl [(h3, .inr (0, [cV G (upq 3), .ref u3, .int (nI 0), .int (nI 16), .int (nI (dd 3))])), (u3, .inl (G.2.1 0, qA (16 + 1) (fun _ => none))), (h2, .inr (0, [cV G (upq 2), .ref u2, .int (nI 0), .int (nI 16), .int (nI (dd 2))])), (u2, .inl (G.2.1 0, qA (16 + 1) (fun _ => none))), (h1, .inr (0, [cV G (upq 1), .ref u1, .int (nI 0), .int (nI 16), .int (nI (dd 1))])), (u1, .inl (G.2.1 0, qA (16 + 1) (fun _ => none))), (h0, .inr (0, [cV G (upq 0), .ref u0, .int (nI 0), .int (nI 16), .int (nI (dd 0))])), (u0, .inl (G.2.1 0, qA (16 + 1) (fun _ => none))), (fl, .inl (G.2.1 1, qA (4) (va_up (va_up (va_up (fun _ => none) (0) (some h0)) (1) (some h1)) (2) (some h2))))] H121 := hP
          have hD : va_D A [(h3, .inr (0, [cV G (upq 3), .ref u3, .int (nI 0), .int (nI 16), .int (nI (dd 3))])), (u3, .inl (G.2.1 0, qA (16 + 1) (fun _ => none))), (h2, .inr (0, [cV G (upq 2), .ref u2, .int (nI 0), .int (nI 16), .int (nI (dd 2))])), (u2, .inl (G.2.1 0, qA (16 + 1) (fun _ => none))), (h1, .inr (0, [cV G (upq 1), .ref u1, .int (nI 0), .int (nI 16), .int (nI (dd 1))])), (u1, .inl (G.2.1 0, qA (16 + 1) (fun _ => none))), (h0, .inr (0, [cV G (upq 0), .ref u0, .int (nI 0), .int (nI 16), .int (nI (dd 0))])), (u0, .inl (G.2.1 0, qA (16 + 1) (fun _ => none))), (fl, .inl (G.2.1 1, qA (4) (va_up (va_up (va_up (fun _ => none) (0) (some h0)) (1) (some h1)) (2) (some h2))))] := hD
          refine qst (C := "DaryArrayHeap") hx hb hK hP hD hS 8 1 rfl rfl (va_recv hK hP (ci := 0) (q0 := 0) (q := (RX3, TX3, 5)) rfl rfl) vb_asgS (by decide) (by decide) dX0_make_18 (fun H122 locs hP hD hS hoq => ?_)
          have hP : va_P G.1 vwCl [(h3, .inr (0, [cV G (upq 3), .ref u3, .int (nI 0), .int (nI 16), .int (nI (dd 3))])), (u3, .inl (G.2.1 0, qA (16 + 1) (fun _ => none))), (h2, .inr (0, [cV G (upq 2), .ref u2, .int (nI 0), .int (nI 16), .int (nI (dd 2))])), (u2, .inl (G.2.1 0, qA (16 + 1) (fun _ => none))), (h1, .inr (0, [cV G (upq 1), .ref u1, .int (nI 0), .int (nI 16), .int (nI (dd 1))])), (u1, .inl (G.2.1 0, qA (16 + 1) (fun _ => none))), (h0, .inr (0, [cV G (upq 0), .ref u0, .int (nI 0), .int (nI 16), .int (nI (dd 0))])), (u0, .inl (G.2.1 0, qA (16 + 1) (fun _ => none))), (fl, .inl (G.2.1 1, qA (4) (va_up (va_up (va_up (va_up (fun _ => none) (0) (some h0)) (1) (some h1)) (2) (some h2)) (3) (some h3))))] H122 := hP
          have hD : va_D A [(h3, .inr (0, [cV G (upq 3), .ref u3, .int (nI 0), .int (nI 16), .int (nI (dd 3))])), (u3, .inl (G.2.1 0, qA (16 + 1) (fun _ => none))), (h2, .inr (0, [cV G (upq 2), .ref u2, .int (nI 0), .int (nI 16), .int (nI (dd 2))])), (u2, .inl (G.2.1 0, qA (16 + 1) (fun _ => none))), (h1, .inr (0, [cV G (upq 1), .ref u1, .int (nI 0), .int (nI 16), .int (nI (dd 1))])), (u1, .inl (G.2.1 0, qA (16 + 1) (fun _ => none))), (h0, .inr (0, [cV G (upq 0), .ref u0, .int (nI 0), .int (nI 16), .int (nI (dd 0))])), (u0, .inl (G.2.1 0, qA (16 + 1) (fun _ => none))), (fl, .inl (G.2.1 1, qA (4) (va_up (va_up (va_up (va_up (fun _ => none) (0) (some h0)) (1) (some h1)) (2) (some h2)) (3) (some h3))))] := hD
          refine lv_iinc (v := nI 4) (lv' := [(1, .int (nI 4)), (0, .ref fl)]) hx hb dX0_make_19 hl (k := 0) rfl (by decide) (by decide) rfl (fun ls hl => ?_)
          refine lv_goto (tgt := 7) hx hb dX0_make_22 (by decide) ?_
          refine lv_iload_n hx hb dX0_make_7 rfl (lv_at hl 0 rfl) ?_
          refine lv_iconst (v := nI 4) hx hb dX0_make_8 (by decide) ?_
          refine bn_ge (tgt := 25) hx hb dX0_make_9 (by decide) (by omega) (by omega) (fun c4 => ?_) (fun c4 => ?_)
          · refine lv_aload_n hx hb dX0_make_25 rfl (lv_at hl 1 rfl) ?_
            have hP := hP.sub (ws' := (fl, .inl (G.2.1 1, qA 4 (va_up (va_up (va_up (va_up (fun _ => none) (0) (some h0)) (1) (some h1)) (2) (some h2)) (3) (some h3)))) :: hps G (f4 h0 h1 h2 h3) (f4 u0 u1 u2 u3) (fun _ => 16) (fun _ => 0) (fun _ _ => none)) [8, 6, 7, 4, 5, 2, 3, 0, 1] rfl
            have hD := hD.sub (ws' := (fl, .inl (G.2.1 1, qA 4 (va_up (va_up (va_up (va_up (fun _ => none) (0) (some h0)) (1) (some h1)) (2) (some h2)) (3) (some h3)))) :: hps G (f4 h0 h1 h2 h3) (f4 u0 u1 u2 u3) (fun _ => 16) (fun _ => 0) (fun _ _ => none)) [8, 6, 7, 4, 5, 2, 3, 0, 1] (by decide) rfl
            refine W.widen (k := 9) (n := 92) (by decide) (by decide) ?_
            exact W.aret (v := .ref fl) hx hb hr (Or.inr ⟨_, rfl⟩) (Or.inr ⟨_, rfl⟩) (fun t ht hW => ⟨⟨(va_up (va_up (va_up (va_up (fun _ => none) (0) (some h0)) (1) (some h1)) (2) (some h2)) (3) (some h3), f4 h0 h1 h2 h3, f4 u0 u1 u2 u3), fl, rfl, (fun i hi => by
              match i, hi with
              | 0, _ => rfl
              | 1, _ => rfl
              | 2, _ => rfl
              | 3, _ => rfl), by dsimp only; rw [ht]; exact hP, hD⟩, hS.F ht⟩) hS.2.2 dX0_make_26
          · exact absurd c4 (by decide)
set_option maxHeartbeats 4000000 in
set_option maxRecDepth 100000 in
/-- DaryArrayHeapDesk() -/
theorem m_dInit (l : Launch) (G : gG) (H0 : Heap) (x : Nat) (hP : va_P G.1 vwCl [(x, .inr (1, [.null, .int (nI 0)]))] H0) (hD : va_D (fun _ => True) [(x, .inr (1, [.null, .int (nI 0)]))]) : Met l yX0_init (ws_ yX0_init cX0_init 1 none) ({ frames := 7, cells := 9, slots := 92, locals := 151 }) (PcG G [.ref x] H0 (va_A [(x, .inr (1, [.null, .int (nI 0)]))] H0.size)) (va_Qv (fun _ : va_W => True) (fun u t => Dk G (va_A [(x, .inr (1, [.null, .int (nI 0)]))] H0.size) t.heap x u 0 (fun _ => 0) (fun _ _ => 0)) (va_A [(x, .inr (1, [.null, .int (nI 0)]))] H0.size)) 9 92 (va_A [(x, .inr (1, [.null, .int (nI 0)]))] H0.size) := by
  refine Met.ofW (cc := cX0_init) (maxL := 1) (ret := none) (by decide) rfl ?_
  intro p e s m args below meth c s₁ B hml hv
  obtain ⟨rfl, rfl, hG⟩ := hv
  have hx := B.exec
  have hb := B.bytes
  have hr := B.returns
  have hts := atoms_spec (ws := ws_ yX0_init cX0_init 1 none) B.pre
  have hts : ∀ w ∈ lw_all, w.before _ s = true := fun w h => hts w (List.mem_cons_of_mem _ h)
  have hown : s.vm.findClass RX0 = some m.cls := findClass_of_methodNamed B.named
  have hlocks := B.notSynchronized
  have hin : meth.name = "<init>" := (name_of_methodNamed B.named B.method).1
  have hK := hG.K
  have hbk : ∀ (H : Heap) (locs : List Loc), va_S (va_A [(x, .inr (1, [.null, .int (nI 0)]))] s.heap.size) s.heap H locs → bK G s.heap H := fun H locs h => bK.of hK hP (nI_o (by decide) nI_nil) h.2.1
  have hD := hD.self (sz := s.heap.size)
  generalize hAe : va_A [(x, .inr (1, [.null, .int (nI 0)]))] s.heap.size = A at hD hG hbk ⊢
  have hA : ∀ q : Nat, s.heap.size ≤ q → A q := fun q h => by rw [← hAe]; exact Or.inr h
  have hS : va_S A s.heap s.heap [] := va_S.rf
  have hl := lv_entry ([.ref x]) (n := 1) (Nat.le_of_ble_eq_true rfl)
  rw [lg_entry_eq]
  generalize (lg_sl ([.ref x]) ++ List.replicate (1 - (lg_sl ([.ref x])).length) Slot.unset).toArray = ls at hl ⊢
  have hl : lv_has ls 1 [(0, .ref x)] := hl
  refine lv_aload_n hx hb dX0_init_0 rfl (lv_at hl 0 rfl) ?_
  refine W.objInit hx hb hown (hts _ q25) (hts _ q26) (hts _ q27) rfl (by rw [hml]; exact hl.1) rfl dX0_init_1 (Nat.le_of_ble_eq_true rfl) (Nat.le_of_ble_eq_true rfl) ?_
  refine W.eq (g2 := F0 m 4 ls []) rfl ?_
  refine lv_aload_n hx hb dX0_init_4 rfl (lv_at hl 0 rfl) ?_
  have hFc := va_free (wc := []) hD hS hA [] rfl
  refine va_callr (va_runS (As := []) (rest := [.ref x]) ⟨hx, hb, hml, hown, hts⟩ (m_make l G _) (va_cwS 0 hts (lw_S q28 q29 q4 q30) rfl rfl rfl (by decide +kernel) ⟨Nat.le_of_ble_eq_true rfl, Nat.le_of_ble_eq_true rfl⟩) (PcG.s (hG.sub hS hFc)) rfl rfl hl.1 rfl (lv_room (Nat.le_of_ble_eq_true rfl)) dX0_init_5 ⟨Nat.le_of_ble_eq_true rfl, Nat.le_of_ble_eq_true rfl⟩) hS (fun q _ h => hFc q h) hFc (fun u fl t H123 locs ht hvm hw hB hz1 hk1 hS => ?_)
  try dsimp only at hB
  try dsimp only at hw
  rw [ht] at hB
  obtain ⟨hP1, hD1⟩ := hB
  obtain ⟨hP, hD⟩ := joinL (w1 := []) (w2 := [(x, .inr (1, [.null, .int (nI 0)]))]) (w3 := ((fl, .inl (G.2.1 1, qA 4 u.1)) :: hps G u.2.1 u.2.2 (fun _ => 16) (fun _ => 0) (fun _ _ => none))) hP hD hk1 hFc hP1 hD1
  have hP := swpP (a := ((fl, .inl (G.2.1 1, qA 4 u.1)) :: hps G u.2.1 u.2.2 (fun _ => 16) (fun _ => 0) (fun _ _ => none))) (b := [(x, .inr (1, [.null, .int (nI 0)]))]) hP
  have hD := swpD (a := ((fl, .inl (G.2.1 1, qA 4 u.1)) :: hps G u.2.1 u.2.2 (fun _ => 16) (fun _ => 0) (fun _ _ => none))) (b := [(x, .inr (1, [.null, .int (nI 0)]))]) hD
  have hP : va_P G.1 vwCl ((x, .inr (1, [.null, .int (nI 0)])) :: (fl, .inl (G.2.1 1, qA (4) (u.1))) :: hps G u.2.1 u.2.2 (fun _ => 16) (fun _ => 0) (fun _ _ => none)) H123 := hP
  have hD : va_D A ((x, .inr (1, [.null, .int (nI 0)])) :: (fl, .inl (G.2.1 1, qA (4) (u.1))) :: hps G u.2.1 u.2.2 (fun _ => 16) (fun _ => 0) (fun _ _ => none)) := hD
  refine va_putF (D := G.1) (ci := 1) (v := .ref fl) (ty := .array (.object "DaryArrayHeap")) (C := RX0) (T := TX0) (N := 2) hx hb hts in_X0 tyX0 tyX0_ok nmX0 hown hK hP hD hS 0 rfl rfl 0 (by decide) (hts _ q186) (fun _ h9 => h9) rfl hin rfl (by decide +kernel) rfl rfl (Nat.le_of_ble_eq_true rfl) dX0_init_8 (fun H124 locs hP hD hS => ?_)
  have hP : va_P G.1 vwCl ((x, .inr (1, [.ref fl, .int (nI 0)])) :: (fl, .inl (G.2.1 1, qA (4) (u.1))) :: hps G u.2.1 u.2.2 (fun _ => 16) (fun _ => 0) (fun _ _ => none)) H124 := hP
  have hD : va_D A ((x, .inr (1, [.ref fl, .int (nI 0)])) :: (fl, .inl (G.2.1 1, qA (4) (u.1))) :: hps G u.2.1 u.2.2 (fun _ => 16) (fun _ => 0) (fun _ _ => none)) := hD
  obtain ⟨w9, hfin⟩ : ∃ w9 : va_W, Dk G A H124 x w9 0 (fun _ => 0) (fun _ _ => 0) := ⟨_, fl, u.1, u.2.1, u.2.2, fun _ => 16, fun _ _ => none, fun _ _ => 0, rfl, ⟨hw, by decide, Nat.le_refl 0, fun i hi => ⟨Nat.le_refl 16, show 16 ≤ 128 by decide, Nat.zero_le _, fun i h1 h2 => absurd (show 2 ≤ 0 from Nat.le_trans h1 h2) (by decide), fun j h1 h2 => absurd (show 1 ≤ 0 from Nat.le_trans h1 h2) (by decide)⟩⟩, fun i hi z => rfl, hP, hD⟩
  refine W.widen (k := 9) (n := 92) (by decide) (by decide) ?_
  exact W.vret hx hb hr (fun t ht hW => ⟨⟨w9, rfl, trivial, by dsimp only; rw [ht]; exact hfin⟩, hS.F ht⟩) hS.2.2 dX0_init_11
end
section
/-! THE MODEL: keys and the heap that each is in; hcnt, mcnt: how many places (with the key z) are in heap j among the first n -/
set_option maxRecDepth 100000
def hcnt (home : Nat → Int32) (j : Nat) : Nat → Nat
  | 0 => 0
  | n + 1 => hcnt home j n + (if home n = nI (1 + j) then 1 else 0)
def mcnt (keys home : Nat → Int32) (j : Nat) (z : Int32) : Nat → Nat
  | 0 => 0
  | n + 1 => mcnt keys home j z n + (if home n = nI (1 + j) ∧ keys n = z then 1 else 0)
theorem h1_ne {i : Nat} (hi : i < 4) : ¬ (0 : Int32) = nI (1 + i) := by
  match i, hi with
  | 0, _ => decide
  | 1, _ => decide
  | 2, _ => decide
  | 3, _ => decide
theorem h1_inj {i j : Nat} (hi : i < 4) (hj : j < 4) : nI (1 + i) = nI (1 + j) ↔ i = j := by
  rw [nI_eq (by omega) (by omega)]
  omega
theorem hcnt_le {home : Nat → Int32} {j : Nat} : ∀ n : Nat, hcnt home j n ≤ n := by
  intro n
  induction n with
  | zero => exact Nat.le_refl 0
  | succ n ih =>
    show hcnt home j n + (if home n = nI (1 + j) then 1 else 0) ≤ n + 1
    split <;> omega
theorem hcnt_congr {home home' : Nat → Int32} {j n : Nat} (h : ∀ t : Nat, t < n → home t = home' t) : hcnt home j n = hcnt home' j n := by
  induction n with
  | zero => rfl
  | succ n ih =>
    show hcnt home j n + (if home n = nI (1 + j) then 1 else 0) = hcnt home' j n + (if home' n = nI (1 + j) then 1 else 0)
    rw [ih (fun t ht => h t (by omega)), h n (by omega)]
theorem mcnt_congr {keys keys' home home' : Nat → Int32} {j n : Nat} {z : Int32} (h : ∀ t : Nat, t < n → home t = home' t) (hk : ∀ t : Nat, t < n → keys t = keys' t) : mcnt keys home j z n = mcnt keys' home' j z n := by
  induction n with
  | zero => rfl
  | succ n ih =>
    show mcnt keys home j z n + (if home n = nI (1 + j) ∧ keys n = z then 1 else 0) = mcnt keys' home' j z n + (if home' n = nI (1 + j) ∧ keys' n = z then 1 else 0)
    rw [ih (fun t ht => h t (by omega)) (fun t ht => hk t (by omega)), h n (by omega), hk n (by omega)]
theorem hcnt_pos {home : Nat → Int32} {j n : Nat} : 0 < hcnt home j n ↔ ∃ i : Nat, i < n ∧ home i = nI (1 + j) := by
  induction n with
  | zero => exact ⟨fun h => absurd h (Nat.lt_irrefl 0), fun ⟨i, h1, _⟩ => by omega⟩
  | succ n ih =>
    show 0 < hcnt home j n + (if home n = nI (1 + j) then 1 else 0) ↔ _
    by_cases hx : home n = nI (1 + j)
    · rw [if_pos hx]
      exact ⟨fun _ => ⟨n, by omega, hx⟩, fun _ => by omega⟩
    · rw [if_neg hx]
      constructor
      · intro h
        obtain ⟨i, h1, h2⟩ := ih.mp h
        exact ⟨i, by omega, h2⟩
      · intro ⟨i, h1, h2⟩
        have hi : i ≠ n := fun q => hx (q ▸ h2)
        have := ih.mpr ⟨i, by omega, h2⟩
        omega
theorem mcnt_pos {keys home : Nat → Int32} {j n : Nat} {z : Int32} : 0 < mcnt keys home j z n ↔ ∃ i : Nat, i < n ∧ home i = nI (1 + j) ∧ keys i = z := by
  induction n with
  | zero => exact ⟨fun h => absurd h (Nat.lt_irrefl 0), fun ⟨i, h1, _⟩ => by omega⟩
  | succ n ih =>
    show 0 < mcnt keys home j z n + (if home n = nI (1 + j) ∧ keys n = z then 1 else 0) ↔ _
    by_cases hx : home n = nI (1 + j) ∧ keys n = z
    · rw [if_pos hx]
      exact ⟨fun _ => ⟨n, by omega, hx⟩, fun _ => by omega⟩
    · rw [if_neg hx]
      constructor
      · intro h
        obtain ⟨i, h1, h2⟩ := ih.mp h
        exact ⟨i, by omega, h2⟩
      · intro ⟨i, h1, h2⟩
        have hi : i ≠ n := fun q => hx (q ▸ h2)
        have := ih.mpr ⟨i, by omega, h2⟩
        omega
theorem upd_self (f : Nat → Int32) (k : Nat) (x : Int32) : upd f k x k = x := if_pos rfl
theorem upd_ne (f : Nat → Int32) {k t : Nat} (x : Int32) (h : t ≠ k) : upd f k x t = f t := if_neg h
/-- one place's heap is rewritten -/
theorem hcnt_set {home : Nat → Int32} {b i n : Nat} (x : Int32) (hb : b < n) : hcnt (upd home b x) i n + (if home b = nI (1 + i) then 1 else 0) = hcnt home i n + (if x = nI (1 + i) then 1 else 0) := by
  induction n with
  | zero => omega
  | succ n ih =>
    show hcnt (upd home b x) i n + (if upd home b x n = nI (1 + i) then 1 else 0) + _ = hcnt home i n + (if home n = nI (1 + i) then 1 else 0) + _
    by_cases hk : b = n
    · subst hk
      rw [upd_self, hcnt_congr (home := upd home b x) (home' := home) (fun t ht => upd_ne _ _ (by omega))]
      omega
    · rw [upd_ne _ _ (Ne.symm hk)]
      have := ih (by omega)
      omega
theorem mcnt_set {keys home : Nat → Int32} {b i n : Nat} (x z : Int32) (hb : b < n) : mcnt keys (upd home b x) i z n + (if home b = nI (1 + i) ∧ keys b = z then 1 else 0) = mcnt keys home i z n + (if x = nI (1 + i) ∧ keys b = z then 1 else 0) := by
  induction n with
  | zero => omega
  | succ n ih =>
    show mcnt keys (upd home b x) i z n + (if upd home b x n = nI (1 + i) ∧ keys n = z then 1 else 0) + _ = mcnt keys home i z n + (if home n = nI (1 + i) ∧ keys n = z then 1 else 0) + _
    by_cases hk : b = n
    · subst hk
      rw [upd_self, mcnt_congr (home := upd home b x) (home' := home) (fun t ht => upd_ne _ _ (by omega)) (fun t ht => rfl)]
      omega
    · rw [upd_ne _ _ (Ne.symm hk)]
      have := ih (by omega)
      omega
/-- a place more -/
theorem hcnt_put {home : Nat → Int32} {i j n : Nat} (hi : i < 4) (hj : j < 4) : hcnt (upd home n (nI (1 + j))) i (n + 1) = va_up (fun i => hcnt home i n) j (hcnt home j n + 1) i := by
  show hcnt (upd home n (nI (1 + j))) i n + (if upd home n (nI (1 + j)) n = nI (1 + i) then 1 else 0) = _
  rw [upd_self, hcnt_congr (home := upd home n (nI (1 + j))) (home' := home) (fun t ht => upd_ne _ _ (by omega))]
  by_cases hij : i = j
  · subst hij
    rw [va_up_self, if_pos rfl]
  · rw [va_up_ne _ _ hij, if_neg (fun z => hij ((h1_inj hj hi).mp z).symm)]
    rfl
theorem mcnt_put {keys home : Nat → Int32} {i j n : Nat} {k z : Int32} (hi : i < 4) (hj : j < 4) : mcnt (upd keys n k) (upd home n (nI (1 + j))) i z (n + 1) = mcnt keys home i z n + (if i = j ∧ k = z then 1 else 0) := by
  show mcnt (upd keys n k) (upd home n (nI (1 + j))) i z n + (if upd home n (nI (1 + j)) n = nI (1 + i) ∧ upd keys n k n = z then 1 else 0) = _
  rw [upd_self, upd_self, mcnt_congr (home := upd home n (nI (1 + j))) (home' := home) (keys := upd keys n k) (keys' := keys) (fun t ht => upd_ne _ _ (by omega)) (fun t ht => upd_ne _ _ (by omega))]
  congr 1
  by_cases hij : i = j
  · subst hij
    simp
  · have h9 : ¬ nI (1 + j) = nI (1 + i) := fun z => hij ((h1_inj hj hi).mp z).symm
    simp [hij, h9]
/-- the first p places, heap j emptied -/
def clf (home : Nat → Int32) (j p : Nat) : Nat → Int32 := fun t => if t < p ∧ home t = nI (1 + j) then 0 else home t
theorem clf_0 (home : Nat → Int32) (j : Nat) : clf home j 0 = home := funext fun t => if_neg (fun h => absurd h.1 (Nat.not_lt_zero _))
theorem clf_at (home : Nat → Int32) (j p : Nat) : clf home j p p = home p := if_neg (fun h => absurd h.1 (Nat.lt_irrefl _))
theorem clf_y {home : Nat → Int32} {j p : Nat} (h : home p = nI (1 + j)) : upd (clf home j p) p 0 = clf home j (p + 1) := funext fun t => by
  by_cases ht : t = p
  · subst ht
    rw [upd_self]
    exact (if_pos ⟨Nat.lt_succ_self _, h⟩).symm
  · rw [upd_ne _ _ ht]
    unfold clf
    have e : t < p + 1 ↔ t < p := by omega
    simp only [e]
theorem clf_n {home : Nat → Int32} {j p : Nat} (h : ¬ home p = nI (1 + j)) : clf home j p = clf home j (p + 1) := funext fun t => by
  unfold clf
  by_cases ht : t = p
  · subst ht
    rw [if_neg (fun z => h z.2), if_neg (fun z => h z.2)]
  · have e : t < p + 1 ↔ t < p := by omega
    simp only [e]
theorem hcnt_clf {home : Nat → Int32} {i j p : Nat} (hi : i < 4) (hj : j < 4) : ∀ n : Nat, n ≤ p → hcnt (clf home j p) i n = if i = j then 0 else hcnt home i n := by
  have z0 : ((0 : Int32) = nI (1 + i)) = False := eq_false (h1_ne hi)
  intro n
  induction n with
  | zero =>
    intro _
    split <;> rfl
  | succ n ih =>
    intro hn
    show hcnt (clf home j p) i n + (if clf home j p n = nI (1 + i) then 1 else 0) = if i = j then 0 else hcnt home i n + (if home n = nI (1 + i) then 1 else 0)
    rw [ih (by omega)]
    by_cases hh : home n = nI (1 + j)
    · rw [show clf home j p n = 0 from if_pos ⟨by omega, hh⟩]
      by_cases hij : i = j
      · simp only [if_pos hij, z0, if_false, Nat.add_zero]
      · have hx : (home n = nI (1 + i)) = False := eq_false (fun z => hij ((h1_inj hi hj).mp (z.symm.trans hh)))
        simp only [if_neg hij, z0, hx, if_false]
    · rw [show clf home j p n = home n from if_neg (fun z => hh z.2)]
      by_cases hij : i = j
      · have hx : (home n = nI (1 + i)) = False := eq_false (by rw [hij]; exact hh)
        simp only [if_pos hij, hx, if_false, Nat.add_zero]
      · simp only [if_neg hij]
theorem mcnt_clf {keys home : Nat → Int32} {i j p : Nat} {z : Int32} (hi : i < 4) (hj : j < 4) : ∀ n : Nat, n ≤ p → mcnt keys (clf home j p) i z n = if i = j then 0 else mcnt keys home i z n := by
  have z0 : ((0 : Int32) = nI (1 + i)) = False := eq_false (h1_ne hi)
  intro n
  induction n with
  | zero =>
    intro _
    split <;> rfl
  | succ n ih =>
    intro hn
    show mcnt keys (clf home j p) i z n + (if clf home j p n = nI (1 + i) ∧ keys n = z then 1 else 0) = if i = j then 0 else mcnt keys home i z n + (if home n = nI (1 + i) ∧ keys n = z then 1 else 0)
    rw [ih (by omega)]
    by_cases hh : home n = nI (1 + j)
    · rw [show clf home j p n = 0 from if_pos ⟨by omega, hh⟩]
      by_cases hij : i = j
      · simp only [if_pos hij, z0, false_and, if_false, Nat.add_zero]
      · have hx : (home n = nI (1 + i)) = False := eq_false (fun z => hij ((h1_inj hi hj).mp (z.symm.trans hh)))
        simp only [if_neg hij, z0, hx, false_and, if_false]
    · rw [show clf home j p n = home n from if_neg (fun z => hh z.2)]
      by_cases hij : i = j
      · have hx : (home n = nI (1 + i)) = False := eq_false (by rw [hij]; exact hh)
        simp only [if_pos hij, hx, false_and, if_false, Nat.add_zero]
      · simp only [if_neg hij]
/-- the first p places, what was in b now in a -/
def pof (home : Nat → Int32) (a b p : Nat) : Nat → Int32 := fun t => if t < p ∧ home t = nI (1 + b) then nI (1 + a) else home t
theorem pof_0 (home : Nat → Int32) (a b : Nat) : pof home a b 0 = home := funext fun t => if_neg (fun h => absurd h.1 (Nat.not_lt_zero _))
theorem pof_at (home : Nat → Int32) (a b p : Nat) : pof home a b p p = home p := if_neg (fun h => absurd h.1 (Nat.lt_irrefl _))
theorem pof_y {home : Nat → Int32} {a b p : Nat} (h : home p = nI (1 + b)) : upd (pof home a b p) p (nI (1 + a)) = pof home a b (p + 1) := funext fun t => by
  by_cases ht : t = p
  · subst ht
    rw [upd_self]
    exact (if_pos ⟨Nat.lt_succ_self _, h⟩).symm
  · rw [upd_ne _ _ ht]
    unfold pof
    have e : t < p + 1 ↔ t < p := by omega
    simp only [e]
theorem pof_n {home : Nat → Int32} {a b p : Nat} (h : ¬ home p = nI (1 + b)) : pof home a b p = pof home a b (p + 1) := funext fun t => by
  unfold pof
  by_cases ht : t = p
  · subst ht
    rw [if_neg (fun z => h z.2), if_neg (fun z => h z.2)]
  · have e : t < p + 1 ↔ t < p := by omega
    simp only [e]
theorem hcnt_pof {home : Nat → Int32} {i a b p : Nat} (hi : i < 4) (ha : a < 4) (hb : b < 4) (hab : a ≠ b) : ∀ n : Nat, n ≤ p → hcnt (pof home a b p) i n = if i = b then 0 else if i = a then hcnt home a n + hcnt home b n else hcnt home i n := by
  have hba : b ≠ a := fun z => hab z.symm
  intro n
  induction n with
  | zero =>
    intro _
    split
    · rfl
    · split <;> rfl
  | succ n ih =>
    intro hn
    show hcnt (pof home a b p) i n + (if pof home a b p n = nI (1 + i) then 1 else 0) = if i = b then 0 else if i = a then (hcnt home a n + (if home n = nI (1 + a) then 1 else 0)) + (hcnt home b n + (if home n = nI (1 + b) then 1 else 0)) else hcnt home i n + (if home n = nI (1 + i) then 1 else 0)
    rw [ih (by omega)]
    by_cases hh : home n = nI (1 + b)
    · rw [show pof home a b p n = nI (1 + a) from if_pos ⟨by omega, hh⟩]
      have x1 : (home n = nI (1 + a)) = False := eq_false (fun z => hba ((h1_inj hb ha).mp (hh.symm.trans z)))
      have x2 : (home n = nI (1 + b)) = True := eq_true hh
      by_cases e1 : i = b
      · have x3 : (nI (1 + a) = nI (1 + i)) = False := eq_false (fun z => hab (((h1_inj ha hi).mp z).trans e1))
        simp only [if_pos e1, x3, false_and, if_false, Nat.add_zero]
      · by_cases e2 : i = a
        · have x3 : (nI (1 + a) = nI (1 + i)) = True := eq_true (by rw [e2])
          simp only [if_neg e1, if_pos e2, x1, x2, x3, false_and, true_and, if_false, if_true]
          omega
        · have x3 : (nI (1 + a) = nI (1 + i)) = False := eq_false (fun z => e2 ((h1_inj ha hi).mp z).symm)
          have x4 : (home n = nI (1 + i)) = False := eq_false (fun z => e1 ((h1_inj hb hi).mp (hh.symm.trans z)).symm)
          simp only [if_neg e1, if_neg e2, x3, x4, false_and, if_false]
    · rw [show pof home a b p n = home n from if_neg (fun q => hh q.2)]
      have x2 : (home n = nI (1 + b)) = False := eq_false hh
      by_cases e1 : i = b
      · have x4 : (home n = nI (1 + i)) = False := eq_false (by rw [e1]; exact hh)
        simp only [if_pos e1, x4, false_and, if_false, Nat.add_zero]
      · by_cases e2 : i = a
        · have x4 : (home n = nI (1 + i)) = (home n = nI (1 + a)) := by rw [e2]
          simp only [if_neg e1, if_pos e2, x2, x4, false_and, if_false]
          omega
        · simp only [if_neg e1, if_neg e2]
theorem mcnt_pof {keys home : Nat → Int32} {i a b p : Nat} {z : Int32} (hi : i < 4) (ha : a < 4) (hb : b < 4) (hab : a ≠ b) : ∀ n : Nat, n ≤ p → mcnt keys (pof home a b p) i z n = if i = b then 0 else if i = a then mcnt keys home a z n + mcnt keys home b z n else mcnt keys home i z n := by
  have hba : b ≠ a := fun z => hab z.symm
  intro n
  induction n with
  | zero =>
    intro _
    split
    · rfl
    · split <;> rfl
  | succ n ih =>
    intro hn
    show mcnt keys (pof home a b p) i z n + (if pof home a b p n = nI (1 + i) ∧ keys n = z then 1 else 0) = if i = b then 0 else if i = a then (mcnt keys home a z n + (if home n = nI (1 + a) ∧ keys n = z then 1 else 0)) + (mcnt keys home b z n + (if home n = nI (1 + b) ∧ keys n = z then 1 else 0)) else mcnt keys home i z n + (if home n = nI (1 + i) ∧ keys n = z then 1 else 0)
    rw [ih (by omega)]
    by_cases hh : home n = nI (1 + b)
    · rw [show pof home a b p n = nI (1 + a) from if_pos ⟨by omega, hh⟩]
      have x1 : (home n = nI (1 + a)) = False := eq_false (fun z => hba ((h1_inj hb ha).mp (hh.symm.trans z)))
      have x2 : (home n = nI (1 + b)) = True := eq_true hh
      by_cases e1 : i = b
      · have x3 : (nI (1 + a) = nI (1 + i)) = False := eq_false (fun z => hab (((h1_inj ha hi).mp z).trans e1))
        simp only [if_pos e1, x3, false_and, if_false, Nat.add_zero]
      · by_cases e2 : i = a
        · have x3 : (nI (1 + a) = nI (1 + i)) = True := eq_true (by rw [e2])
          simp only [if_neg e1, if_pos e2, x1, x2, x3, false_and, true_and, if_false, if_true]
          omega
        · have x3 : (nI (1 + a) = nI (1 + i)) = False := eq_false (fun z => e2 ((h1_inj ha hi).mp z).symm)
          have x4 : (home n = nI (1 + i)) = False := eq_false (fun z => e1 ((h1_inj hb hi).mp (hh.symm.trans z)).symm)
          simp only [if_neg e1, if_neg e2, x3, x4, false_and, if_false]
    · rw [show pof home a b p n = home n from if_neg (fun q => hh q.2)]
      have x2 : (home n = nI (1 + b)) = False := eq_false hh
      by_cases e1 : i = b
      · have x4 : (home n = nI (1 + i)) = False := eq_false (by rw [e1]; exact hh)
        simp only [if_pos e1, x4, false_and, if_false, Nat.add_zero]
      · by_cases e2 : i = a
        · have x4 : (home n = nI (1 + i)) = (home n = nI (1 + a)) := by rw [e2]
          simp only [if_neg e1, if_pos e2, x2, x4, false_and, if_false]
          omega
        · simp only [if_neg e1, if_neg e2]
abbrev mwl (G : gG) (m ka ha puts : Nat) (keys home : Nat → Int32) : va_W := [(m, .inr (2, [.ref ka, .ref ha, .int (nI puts)])), (ka, .inl (G.2.1 3, iA 64 keys)), (ha, .inl (G.2.1 3, iA 64 home))]
/-- the model at m, told like the desk -/
def Mk (G : gG) (A : Nat → Prop) (H : Heap) (m : Nat) (ws : va_W) (puts : Nat) (N : Nat → Nat) (C : Nat → Int32 → Nat) : Prop := ∃ (ka ha : Nat) (keys home : Nat → Int32), ws = mwl G m ka ha puts keys home ∧ puts ≤ 64 ∧ (∀ i : Nat, i < 4 → N i = hcnt home i puts) ∧ (∀ i : Nat, i < 4 → ∀ z : Int32, C i z = mcnt keys home i z puts) ∧ va_P G.1 vwCl ws H ∧ va_D A ws
theorem Mk.nI {G : gG} {A : Nat → Prop} {H : Heap} {x : Nat} {ws : va_W} {puts : Nat} {N : Nat → Nat} {C : Nat → Int32 → Nat} (h : Mk G A H x ws puts N C) : ∀ q ∈ ws, notI G q := by
  obtain ⟨ka, ha, keys, home, rfl, -⟩ := h
  exact nI_o (by decide) (nI_a 3 (by decide) (nI_a 3 (by decide) nI_nil))
theorem Mk.P {G : gG} {A : Nat → Prop} {H : Heap} {x : Nat} {ws : va_W} {puts : Nat} {N : Nat → Nat} {C : Nat → Int32 → Nat} (h : Mk G A H x ws puts N C) : va_P G.1 vwCl ws H := by
  obtain ⟨ka, ha, keys, home, -, -, -, -, h1, h2⟩ := h
  exact h1
theorem Mk.D {G : gG} {A : Nat → Prop} {H : Heap} {x : Nat} {ws : va_W} {puts : Nat} {N : Nat → Nat} {C : Nat → Int32 → Nat} (h : Mk G A H x ws puts N C) : va_D A ws := by
  obtain ⟨ka, ha, keys, home, -, -, -, -, h1, h2⟩ := h
  exact h2
theorem Mk.wk {G : gG} {A B : Nat → Prop} {H : Heap} {x : Nat} {ws : va_W} {puts : Nat} {N : Nat → Nat} {C : Nat → Int32 → Nat} (h : Mk G A H x ws puts N C) (hD : va_D B ws) : Mk G B H x ws puts N C := by
  obtain ⟨ka, ha, keys, home, e, h1, h2, h3, h4, h5⟩ := h
  exact ⟨ka, ha, keys, home, e, h1, h2, h3, h4, hD⟩
theorem Mk.kept {G : gG} {A : Nat → Prop} {H H1 : Heap} {x : Nat} {ws : va_W} {puts : Nat} {N : Nat → Nat} {C : Nat → Int32 → Nat} (h : Mk G A H x ws puts N C) (hP : va_P G.1 vwCl ws H1) : Mk G A H1 x ws puts N C := by
  obtain ⟨ka, ha, keys, home, e, h1, h2, h3, h4, h5⟩ := h
  exact ⟨ka, ha, keys, home, e, h1, h2, h3, hP, h5⟩
theorem Mk.congr {G : gG} {A : Nat → Prop} {H : Heap} {x : Nat} {ws : va_W} {puts : Nat} {N N' : Nat → Nat} {C C' : Nat → Int32 → Nat} (h : Mk G A H x ws puts N C) (hN : ∀ i : Nat, i < 4 → N i = N' i) (hC : ∀ i : Nat, i < 4 → ∀ z : Int32, C i z = C' i z) : Mk G A H x ws puts N' C' := by
  obtain ⟨ka, ha, keys, home, e, h1, h2, h3, h4, h5⟩ := h
  exact ⟨ka, ha, keys, home, e, h1, fun i hi => by rw [← hN i hi]; exact h2 i hi, fun i hi z => by rw [← hC i hi z]; exact h3 i hi z, h4, h5⟩
end
section
/-! THE MODEL's METHODS -/
set_option maxRecDepth 100000
theorem Mk.recv {G : gG} {A : Nat → Prop} {H : Heap} {x : Nat} {ws : va_W} {puts : Nat} {N : Nat → Nat} {C : Nat → Int32 → Nat} {s : State} (hK : va_K G.1 vwCl (tyL G) s) (h : Mk G A H x ws puts N C) : ∃ cell : Cell, H[x]? = some cell ∧ cell.vm.isStatics = false ∧ s.vm.findClass "DaryArrayHeapDeskModel" = some cell.cls := by
  obtain ⟨ka, ha, keys, home, rfl, -, -, -, h1, -⟩ := h
  exact va_recv hK h1 (ci := 2) (q0 := 0) (q := (RX4, TX4, 3)) rfl rfl
theorem Dk.recv {G : gG} {A : Nat → Prop} {H : Heap} {x : Nat} {ws : va_W} {puts : Nat} {N : Nat → Nat} {C : Nat → Int32 → Nat} {s : State} (hK : va_K G.1 vwCl (tyL G) s) (h : Dk G A H x ws puts N C) : ∃ cell : Cell, H[x]? = some cell ∧ cell.vm.isStatics = false ∧ s.vm.findClass "DaryArrayHeapDesk" = some cell.cls := by
  obtain ⟨fl, g, hp, ar, cap, f, v, rfl, -, -, h1, -⟩ := h
  exact va_recv hK h1 (ci := 1) (q0 := 0) (q := (RX0, TX0, 2)) rfl rfl
/-- what the search has found among the first n places -/
def fst9 (keys home : Nat → Int32) (j n : Nat) (y : Int32) : Prop := (y = -1 ∧ ∀ t : Nat, t < n → ¬ home t = nI (1 + j)) ∨ ∃ b : Nat, b < n ∧ y = nI b ∧ home b = nI (1 + j) ∧ ∀ t : Nat, t < n → home t = nI (1 + j) → ky (upq j) (keys b) ≤ ky (upq j) (keys t)
theorem fst9_0 {keys home : Nat → Int32} {j : Nat} : fst9 keys home j 0 (-1) := Or.inl ⟨rfl, fun t h => absurd h (Nat.not_lt_zero _)⟩
theorem fst9_skip {keys home : Nat → Int32} {j n : Nat} {y : Int32} (h : fst9 keys home j n y) (hn : ¬ home n = nI (1 + j)) : fst9 keys home j (n + 1) y := by
  rcases h with ⟨h1, h2⟩ | ⟨b, h1, h2, h3, h4⟩
  · refine Or.inl ⟨h1, fun t ht => ?_⟩
    by_cases e : t = n
    · rw [e]; exact hn
    · exact h2 t (by omega)
  · refine Or.inr ⟨b, by omega, h2, h3, fun t ht hh => ?_⟩
    by_cases e : t = n
    · rw [e] at hh; exact absurd hh hn
    · exact h4 t (by omega) hh
theorem fst9_new {keys home : Nat → Int32} {j n : Nat} {y : Int32} (h : fst9 keys home j n y) (hy : y < 0) (hb : n < 2 ^ 31) (hn : home n = nI (1 + j)) : fst9 keys home j (n + 1) (nI n) := by
  rcases h with ⟨h1, h2⟩ | ⟨b, h1, h2, h3, h4⟩
  · refine Or.inr ⟨n, by omega, rfl, hn, fun t ht hh => ?_⟩
    by_cases e : t = n
    · rw [e]; exact Int.le_refl _
    · exact absurd hh (h2 t (by omega))
  · rw [h2] at hy
    exact absurd hy (nI_pos (by omega))
theorem fst9_keep {keys home : Nat → Int32} {j n b : Nat} (h1 : b < n) (h3 : home b = nI (1 + j)) (h4 : ∀ t : Nat, t < n → home t = nI (1 + j) → ky (upq j) (keys b) ≤ ky (upq j) (keys t)) (hk : ky (upq j) (keys b) ≤ ky (upq j) (keys n)) : fst9 keys home j (n + 1) (nI b) := by
  refine Or.inr ⟨b, by omega, rfl, h3, fun t ht hh => ?_⟩
  by_cases e : t = n
  · rw [e]; exact hk
  · exact h4 t (by omega) hh
theorem fst9_take {keys home : Nat → Int32} {j n b : Nat} (hn : home n = nI (1 + j)) (h4 : ∀ t : Nat, t < n → home t = nI (1 + j) → ky (upq j) (keys b) ≤ ky (upq j) (keys t)) (hk : ky (upq j) (keys n) < ky (upq j) (keys b)) : fst9 keys home j (n + 1) (nI n) := by
  refine Or.inr ⟨n, by omega, rfl, hn, fun t ht hh => ?_⟩
  by_cases e : t = n
  · rw [e]; exact Int.le_refl _
  · exact Int.le_trans (Int.le_of_lt hk) (h4 t (by omega) hh)
theorem kyT_le {x y : Int32} (h : x ≤ y) : ky true x ≤ ky true y := Int32.le_iff_toInt_le.mp h
theorem kyT_lt {x y : Int32} (h : ¬ y ≤ x) : ky true x < ky true y := by
  rw [Int32.le_iff_toInt_le] at h
  show x.toInt < y.toInt
  omega
theorem kyF_le {x y : Int32} (h : y ≤ x) : ky false x ≤ ky false y := by
  rw [Int32.le_iff_toInt_le] at h
  show -x.toInt ≤ -y.toInt
  omega
theorem kyF_lt {x y : Int32} (h : ¬ x ≤ y) : ky false x < ky false y := by
  rw [Int32.le_iff_toInt_le] at h
  show -x.toInt < -y.toInt
  omega
theorem hcnt_zero {home : Nat → Int32} {j n : Nat} (h : ∀ t : Nat, t < n → ¬ home t = nI (1 + j)) : hcnt home j n = 0 := Nat.eq_zero_of_not_pos (fun z => by
  obtain ⟨t, h1, h2⟩ := hcnt_pos.mp z
  exact h t h1 h2)
theorem mMin_of {keys home : Nat → Int32} {C : Nat → Int32 → Nat} {j n b : Nat} (hC : ∀ z : Int32, C j z = mcnt keys home j z n) (hb : b < n) (hh : home b = nI (1 + j)) (h4 : ∀ t : Nat, t < n → home t = nI (1 + j) → ky (upq j) (keys b) ≤ ky (upq j) (keys t)) : isMin C j (keys b) := ⟨by rw [hC]; exact mcnt_pos.mpr ⟨b, hb, hh, rfl⟩, fun z hz => by
  rw [hC] at hz
  obtain ⟨t, h1, h2, h3⟩ := mcnt_pos.mp hz
  rw [← h3]
  exact h4 t h1 h2⟩
set_option maxHeartbeats 4000000 in
set_option maxRecDepth 100000 in
/-- first(r): where the least of heap r is -/
theorem m_mFirst (l : Launch) (G : gG) (H0 : Heap) (mo ka hm puts : Nat) (keys home : Nat → Int32) (r : Int32) (hp64 : puts ≤ 64) (hP : va_P G.1 vwCl (mwl G mo ka hm puts keys home) H0) : Met l yX4_first (ws_ yX4_first cX4_first 4 (some .int)) ({ frames := 0, cells := 0, slots := 0, locals := 0 }) (PcG G [.ref mo, .int r] H0 (fun _ => False)) (vp_Si (fun y => fst9 keys home (r4 r) puts y)) 0 0 (fun _ => False) := by
  refine Met.ofW (cc := cX4_first) (maxL := 4) (ret := (some .int)) (by decide) rfl ?_
  intro p e s m args below meth c s₁ B hml hv
  obtain ⟨rfl, rfl, hG⟩ := hv
  have hx := B.exec
  have hb := B.bytes
  have hr := B.returns
  have hts := atoms_spec (ws := ws_ yX4_first cX4_first 4 (some .int)) B.pre
  have hts : ∀ w ∈ lw_all, w.before _ s = true := fun w h => hts w (List.mem_cons_of_mem _ h)
  have hown : s.vm.findClass RX4 = some m.cls := findClass_of_methodNamed B.named
  have hlocks := B.notSynchronized
  have hK := hG.K
  have hS : va_S (fun _ => False) s.heap s.heap [] := va_S.rf
  have hl := lv_entry ([.ref mo, .int r]) (n := 4) (Nat.le_of_ble_eq_true rfl)
  rw [lg_entry_eq]
  generalize (lg_sl ([.ref mo, .int r]) ++ List.replicate (4 - (lg_sl ([.ref mo, .int r])).length) Slot.unset).toArray = ls at hl ⊢
  have hl : lv_has ls 4 [(0, .ref mo), (1, .int r)] := hl
  have hra := r4_and r
  have hj4 := r4_lt r
  generalize hje : r4 r = j at hra hj4 ⊢
  refine lv_iconst (v := (-1)) hx hb dX4_first_0 (by decide) ?_
  refine lv_istore_n (lv' := [(2, .int ((-1))), (0, .ref mo), (1, .int r)]) hx hb dX4_first_1 rfl hl (by decide) rfl (fun ls hl => ?_)
  refine lv_iconst (v := nI 0) hx hb dX4_first_2 (by decide) ?_
  refine lv_istore_n (lv' := [(3, .int (nI 0)), (2, .int ((-1))), (0, .ref mo), (1, .int r)]) hx hb dX4_first_3 rfl hl (by decide) rfl (fun ls hl => ?_)
  have loop : ∀ (fuel i : Nat) (y : Int32) (ls : Array Slot), puts - i < fuel → i ≤ puts → fst9 keys home j i y → lv_has ls 4 [(3, .int (nI i)), (2, .int y), (0, .ref mo), (1, .int r)] → W p l e (headSpec (ws_ yX4_first cX4_first 4 (some .int)) ({ frames := 0, cells := 0, slots := 0, locals := 0 })).room s m ([.ref mo, .int r] : List Value).toArray below meth c s.heap [] 0 0 (MQ below (vp_Si (fun y => fst9 keys home j puts y)) ([.ref mo, .int r] : List Value).toArray s 0 0 (fun _ => False)) (F0 m 4 ls []) := by
    intro fuel
    induction fuel with
    | zero =>
      intro i y ls hfu
      exact absurd hfu (Nat.not_lt_zero _)
    | succ fuel ih =>
      intro i y ls hfu hip hI hl
      refine lv_iload_n hx hb dX4_first_4 rfl (lv_at hl 0 rfl) ?_
      refine lv_aload_n hx hb dX4_first_5 rfl (lv_at hl 2 rfl) ?_
      refine va_get (D := G.1) (ci := 2) (v := .int (nI puts)) (C := RX4) (T := TX4) (N := 3) hx hb hts in_X4 hown hK hP 0 rfl rfl 2 (by decide) (hts _ q410) (fun _ h9 => h9) rfl dX4_first_6 ?_
      refine bn_ge (tgt := 78) hx hb dX4_first_9 (by decide) (by omega) (by omega) (fun c1 => ?_) (fun c1 => ?_)
      · have hi9 : i = puts := by omega
        refine lv_iload_n hx hb dX4_first_78 rfl (lv_at hl 1 rfl) ?_
        exact W.iret (v := y) hx hb hr (fun t ht hW => ⟨y, rfl, by rw [← hi9]; exact hI, ht⟩) hS.2.2 dX4_first_79
      · refine lv_aload_n hx hb dX4_first_12 rfl (lv_at hl 2 rfl) ?_
        refine va_get (D := G.1) (ci := 2) (v := .ref hm) (C := RX4) (T := TX4) (N := 3) hx hb hts in_X4 hown hK hP 0 rfl rfl 1 (by decide) (hts _ q409) (fun _ h9 => h9) rfl dX4_first_13 ?_
        refine lv_iload_n hx hb dX4_first_16 rfl (lv_at hl 0 rfl) ?_
        refine ild hx hb hK hP 2 3 rfl rfl (by omega) (by decide) dX4_first_17 ?_
        refine lv_iconst (v := nI 1) hx hb dX4_first_18 (by decide) ?_
        refine lv_iload_n hx hb dX4_first_19 rfl (lv_at hl 3 rfl) ?_
        refine lv_iconst (v := nI 3) hx hb dX4_first_20 (by decide) ?_
        refine lv_iand hx hb dX4_first_21 ?_
        refine lv_tn (nI (j)) (hra) ?_
        refine lv_iadd hx hb dX4_first_22 ?_
        refine lv_tn (nI (1 + j)) (nI_add _ _) ?_
        refine lv_icmp_ne (tgt := 72) hx hb dX4_first_23 (by decide) (fun c2 => ?_) (fun c2 => ?_)
        · refine lv_iinc (v := nI (i + 1)) (lv' := [(3, .int (nI (i + 1))), (2, .int y), (0, .ref mo), (1, .int r)]) hx hb dX4_first_72 hl (k := 0) rfl (by rw [show Int32.ofInt 1 = nI 1 from by decide]; exact nI_add (i) 1) (by decide) rfl (fun ls hl => ?_)
          refine lv_goto (tgt := 4) hx hb dX4_first_75 (by decide) ?_
          exact ih (i + 1) y _ (by omega) (by omega) (fst9_skip hI c2) (lv_sub hl [0, 1, 2, 3] rfl)
        · refine lv_iload_n hx hb dX4_first_26 rfl (lv_at hl 1 rfl) ?_
          refine lv_if_lt (tgt := 70) hx hb dX4_first_27 (by decide) (fun c3 => ?_) (fun c3 => ?_)
          · refine lv_iload_n hx hb dX4_first_70 rfl (lv_at hl 0 rfl) ?_
            refine lv_istore_n (lv' := [(2, .int (nI i)), (3, .int (nI i)), (0, .ref mo), (1, .int r)]) hx hb dX4_first_71 rfl hl (by decide) rfl (fun ls hl => ?_)
            refine lv_iinc (v := nI (i + 1)) (lv' := [(3, .int (nI (i + 1))), (2, .int (nI i)), (0, .ref mo), (1, .int r)]) hx hb dX4_first_72 hl (k := 1) rfl (by rw [show Int32.ofInt 1 = nI 1 from by decide]; exact nI_add (i) 1) (by decide) rfl (fun ls hl => ?_)
            refine lv_goto (tgt := 4) hx hb dX4_first_75 (by decide) ?_
            exact ih (i + 1) (nI i) _ (by omega) (by omega) (fst9_new hI c3 (by omega) c2) (lv_sub hl [0, 1, 2, 3] rfl)
          · rcases hI with ⟨rfl, -⟩ | ⟨b, h1, rfl, h3, h4⟩
            · exact absurd (by decide) c3
            · refine lv_iload_n hx hb dX4_first_30 rfl (lv_at hl 3 rfl) ?_
              refine lv_iconst (v := nI 3) hx hb dX4_first_31 (by decide) ?_
              refine lv_iand hx hb dX4_first_32 ?_
              refine lv_tn (nI (j)) (hra) ?_
              refine lv_iconst (v := nI 2) hx hb dX4_first_33 (by decide) ?_
              refine bn_ge (tgt := 55) hx hb dX4_first_34 (by decide) (by omega) (by omega) (fun c4 => ?_) (fun c4 => ?_)
              · have eu : upq j = false := decide_eq_false (by omega)
                refine lv_aload_n hx hb dX4_first_55 rfl (lv_at hl 2 rfl) ?_
                refine va_get (D := G.1) (ci := 2) (v := .ref ka) (C := RX4) (T := TX4) (N := 3) hx hb hts in_X4 hown hK hP 0 rfl rfl 0 (by decide) (hts _ q408) (fun _ h9 => h9) rfl dX4_first_56 ?_
                refine lv_iload_n hx hb dX4_first_59 rfl (lv_at hl 0 rfl) ?_
                refine ild hx hb hK hP 1 3 rfl rfl (by omega) (by decide) dX4_first_60 ?_
                refine lv_aload_n hx hb dX4_first_61 rfl (lv_at hl 2 rfl) ?_
                refine va_get (D := G.1) (ci := 2) (v := .ref ka) (C := RX4) (T := TX4) (N := 3) hx hb hts in_X4 hown hK hP 0 rfl rfl 0 (by decide) (hts _ q408) (fun _ h9 => h9) rfl dX4_first_62 ?_
                refine lv_iload_n hx hb dX4_first_65 rfl (lv_at hl 1 rfl) ?_
                refine ild hx hb hK hP 1 3 rfl rfl (by omega) (by decide) dX4_first_66 ?_
                refine lv_icmp_le (tgt := 72) hx hb dX4_first_67 (by decide) (fun c5 => ?_) (fun c5 => ?_)
                · refine lv_iinc (v := nI (i + 1)) (lv' := [(3, .int (nI (i + 1))), (2, .int (nI b)), (0, .ref mo), (1, .int r)]) hx hb dX4_first_72 hl (k := 0) rfl (by rw [show Int32.ofInt 1 = nI 1 from by decide]; exact nI_add (i) 1) (by decide) rfl (fun ls hl => ?_)
                  refine lv_goto (tgt := 4) hx hb dX4_first_75 (by decide) ?_
                  exact ih (i + 1) (nI b) _ (by omega) (by omega) (fst9_keep h1 h3 h4 (by rw [eu]; exact kyF_le c5)) (lv_sub hl [0, 1, 2, 3] rfl)
                · refine lv_iload_n hx hb dX4_first_70 rfl (lv_at hl 0 rfl) ?_
                  refine lv_istore_n (lv' := [(2, .int (nI i)), (3, .int (nI i)), (0, .ref mo), (1, .int r)]) hx hb dX4_first_71 rfl hl (by decide) rfl (fun ls hl => ?_)
                  refine lv_iinc (v := nI (i + 1)) (lv' := [(3, .int (nI (i + 1))), (2, .int (nI i)), (0, .ref mo), (1, .int r)]) hx hb dX4_first_72 hl (k := 1) rfl (by rw [show Int32.ofInt 1 = nI 1 from by decide]; exact nI_add (i) 1) (by decide) rfl (fun ls hl => ?_)
                  refine lv_goto (tgt := 4) hx hb dX4_first_75 (by decide) ?_
                  exact ih (i + 1) (nI i) _ (by omega) (by omega) (fst9_take c2 h4 (by rw [eu]; exact kyF_lt c5)) (lv_sub hl [0, 1, 2, 3] rfl)
              · have eu : upq j = true := decide_eq_true (by omega)
                refine lv_aload_n hx hb dX4_first_37 rfl (lv_at hl 2 rfl) ?_
                refine va_get (D := G.1) (ci := 2) (v := .ref ka) (C := RX4) (T := TX4) (N := 3) hx hb hts in_X4 hown hK hP 0 rfl rfl 0 (by decide) (hts _ q408) (fun _ h9 => h9) rfl dX4_first_38 ?_
                refine lv_iload_n hx hb dX4_first_41 rfl (lv_at hl 0 rfl) ?_
                refine ild hx hb hK hP 1 3 rfl rfl (by omega) (by decide) dX4_first_42 ?_
                refine lv_aload_n hx hb dX4_first_43 rfl (lv_at hl 2 rfl) ?_
                refine va_get (D := G.1) (ci := 2) (v := .ref ka) (C := RX4) (T := TX4) (N := 3) hx hb hts in_X4 hown hK hP 0 rfl rfl 0 (by decide) (hts _ q408) (fun _ h9 => h9) rfl dX4_first_44 ?_
                refine lv_iload_n hx hb dX4_first_47 rfl (lv_at hl 1 rfl) ?_
                refine ild hx hb hK hP 1 3 rfl rfl (by omega) (by decide) dX4_first_48 ?_
                refine lv_icmp_ge (tgt := 72) hx hb dX4_first_49 (by decide) (fun c5 => ?_) (fun c5 => ?_)
                · refine lv_iinc (v := nI (i + 1)) (lv' := [(3, .int (nI (i + 1))), (2, .int (nI b)), (0, .ref mo), (1, .int r)]) hx hb dX4_first_72 hl (k := 0) rfl (by rw [show Int32.ofInt 1 = nI 1 from by decide]; exact nI_add (i) 1) (by decide) rfl (fun ls hl => ?_)
                  refine lv_goto (tgt := 4) hx hb dX4_first_75 (by decide) ?_
                  exact ih (i + 1) (nI b) _ (by omega) (by omega) (fst9_keep h1 h3 h4 (by rw [eu]; exact kyT_le c5)) (lv_sub hl [0, 1, 2, 3] rfl)
                · refine lv_goto (tgt := 70) hx hb dX4_first_52 (by decide) ?_
                  refine lv_iload_n hx hb dX4_first_70 rfl (lv_at hl 0 rfl) ?_
                  refine lv_istore_n (lv' := [(2, .int (nI i)), (3, .int (nI i)), (0, .ref mo), (1, .int r)]) hx hb dX4_first_71 rfl hl (by decide) rfl (fun ls hl => ?_)
                  refine lv_iinc (v := nI (i + 1)) (lv' := [(3, .int (nI (i + 1))), (2, .int (nI i)), (0, .ref mo), (1, .int r)]) hx hb dX4_first_72 hl (k := 1) rfl (by rw [show Int32.ofInt 1 = nI 1 from by decide]; exact nI_add (i) 1) (by decide) rfl (fun ls hl => ?_)
                  refine lv_goto (tgt := 4) hx hb dX4_first_75 (by decide) ?_
                  exact ih (i + 1) (nI i) _ (by omega) (by omega) (fst9_take c2 h4 (by rw [eu]; exact kyT_lt c5)) (lv_sub hl [0, 1, 2, 3] rfl)
  exact loop (puts + 1) 0 (-1) ls (by omega) (Nat.zero_le _) fst9_0 (lv_sub hl [0, 1, 2, 3] rfl)
set_option maxHeartbeats 4000000 in
set_option maxRecDepth 100000 in
/-- size(r) -/
theorem m_mSize (l : Launch) (G : gG) (H0 : Heap) (mo : Nat) (ws : va_W) (puts : Nat) (N : Nat → Nat) (C : Nat → Int32 → Nat) (hMk : Mk G (fun _ => True) H0 mo ws puts N C) (r : Int32) : Met l yX4_size (ws_ yX4_size cX4_size 4 (some .int)) ({ frames := 0, cells := 0, slots := 0, locals := 0 }) (PcG G [.ref mo, .int r] H0 (fun _ => False)) (vp_Si (fun y => y = nI (N (r4 r)))) 0 0 (fun _ => False) := by
  refine Met.ofW (cc := cX4_size) (maxL := 4) (ret := (some .int)) (by decide) rfl ?_
  intro p e s m args below meth c s₁ B hml hv
  obtain ⟨rfl, rfl, hG⟩ := hv
  have hx := B.exec
  have hb := B.bytes
  have hr := B.returns
  have hts := atoms_spec (ws := ws_ yX4_size cX4_size 4 (some .int)) B.pre
  have hts : ∀ w ∈ lw_all, w.before _ s = true := fun w h => hts w (List.mem_cons_of_mem _ h)
  have hown : s.vm.findClass RX4 = some m.cls := findClass_of_methodNamed B.named
  have hlocks := B.notSynchronized
  have hK := hG.K
  have hS : va_S (fun _ => False) s.heap s.heap [] := va_S.rf
  have hl := lv_entry ([.ref mo, .int r]) (n := 4) (Nat.le_of_ble_eq_true rfl)
  rw [lg_entry_eq]
  generalize (lg_sl ([.ref mo, .int r]) ++ List.replicate (4 - (lg_sl ([.ref mo, .int r])).length) Slot.unset).toArray = ls at hl ⊢
  have hl : lv_has ls 4 [(0, .ref mo), (1, .int r)] := hl
  have hra := r4_and r
  have hj4 := r4_lt r
  generalize hje : r4 r = j at hra hj4 ⊢
  obtain ⟨ka, hm, keys, home, rfl, hp64, hN, hC, hP, hD⟩ := hMk
  have hNj := hN j hj4
  refine lv_iconst (v := nI 0) hx hb dX4_size_0 (by decide) ?_
  refine lv_istore_n (lv' := [(2, .int (nI 0)), (0, .ref mo), (1, .int r)]) hx hb dX4_size_1 rfl hl (by decide) rfl (fun ls hl => ?_)
  refine lv_iconst (v := nI 0) hx hb dX4_size_2 (by decide) ?_
  refine lv_istore_n (lv' := [(3, .int (nI 0)), (2, .int (nI 0)), (0, .ref mo), (1, .int r)]) hx hb dX4_size_3 rfl hl (by decide) rfl (fun ls hl => ?_)
  have loop : ∀ (fuel i : Nat) (ls : Array Slot), puts - i < fuel → i ≤ puts → lv_has ls 4 [(3, .int (nI i)), (2, .int (nI (hcnt home j i))), (0, .ref mo), (1, .int r)] → W p l e (headSpec (ws_ yX4_size cX4_size 4 (some .int)) ({ frames := 0, cells := 0, slots := 0, locals := 0 })).room s m ([.ref mo, .int r] : List Value).toArray below meth c s.heap [] 0 0 (MQ below (vp_Si (fun y => y = nI (N j))) ([.ref mo, .int r] : List Value).toArray s 0 0 (fun _ => False)) (F0 m 4 ls []) := by
    intro fuel
    induction fuel with
    | zero =>
      intro i ls hfu
      exact absurd hfu (Nat.not_lt_zero _)
    | succ fuel ih =>
      intro i ls hfu hip hl
      refine lv_iload_n hx hb dX4_size_4 rfl (lv_at hl 0 rfl) ?_
      refine lv_aload_n hx hb dX4_size_5 rfl (lv_at hl 2 rfl) ?_
      refine va_get (D := G.1) (ci := 2) (v := .int (nI puts)) (C := RX4) (T := TX4) (N := 3) hx hb hts in_X4 hown hK hP 0 rfl rfl 2 (by decide) (hts _ q410) (fun _ h9 => h9) rfl dX4_size_6 ?_
      refine bn_ge (tgt := 40) hx hb dX4_size_9 (by decide) (by omega) (by omega) (fun c1 => ?_) (fun c1 => ?_)
      · have hi9 : i = puts := by omega
        refine lv_iload_n hx hb dX4_size_40 rfl (lv_at hl 1 rfl) ?_
        exact W.iret (v := nI (hcnt home j i)) hx hb hr (fun t ht hW => ⟨_, rfl, by rw [hi9, hNj], ht⟩) hS.2.2 dX4_size_41
      · refine lv_iload_n hx hb dX4_size_12 rfl (lv_at hl 1 rfl) ?_
        refine lv_aload_n hx hb dX4_size_13 rfl (lv_at hl 2 rfl) ?_
        refine va_get (D := G.1) (ci := 2) (v := .ref hm) (C := RX4) (T := TX4) (N := 3) hx hb hts in_X4 hown hK hP 0 rfl rfl 1 (by decide) (hts _ q409) (fun _ h9 => h9) rfl dX4_size_14 ?_
        refine lv_iload_n hx hb dX4_size_17 rfl (lv_at hl 0 rfl) ?_
        refine ild hx hb hK hP 2 3 rfl rfl (by omega) (by decide) dX4_size_18 ?_
        refine lv_iconst (v := nI 1) hx hb dX4_size_19 (by decide) ?_
        refine lv_iload_n hx hb dX4_size_20 rfl (lv_at hl 3 rfl) ?_
        refine lv_iconst (v := nI 3) hx hb dX4_size_21 (by decide) ?_
        refine lv_iand hx hb dX4_size_22 ?_
        refine lv_tn (nI (j)) (hra) ?_
        refine lv_iadd hx hb dX4_size_23 ?_
        refine lv_tn (nI (1 + j)) (nI_add _ _) ?_
        refine lv_icmp_ne (tgt := 31) hx hb dX4_size_24 (by decide) (fun c2 => ?_) (fun c2 => ?_)
        · refine lv_iconst (v := nI 0) hx hb dX4_size_31 (by decide) ?_
          refine lv_iadd hx hb dX4_size_32 ?_
          refine lv_tn (nI (hcnt home j (i + 1))) ((nI_add _ _).trans (congrArg nI (by show _ = hcnt home j i + _; rw [if_neg c2]))) ?_
          refine lv_istore_n (lv' := [(2, .int (nI (hcnt home j (i + 1)))), (3, .int (nI i)), (0, .ref mo), (1, .int r)]) hx hb dX4_size_33 rfl hl (by decide) rfl (fun ls hl => ?_)
          refine lv_iinc (v := nI (i + 1)) (lv' := [(3, .int (nI (i + 1))), (2, .int (nI (hcnt home j (i + 1)))), (0, .ref mo), (1, .int r)]) hx hb dX4_size_34 hl (k := 1) rfl (by rw [show Int32.ofInt 1 = nI 1 from by decide]; exact nI_add (i) 1) (by decide) rfl (fun ls hl => ?_)
          refine lv_goto (tgt := 4) hx hb dX4_size_37 (by decide) ?_
          exact ih (i + 1) _ (by omega) (by omega) (lv_sub hl [0, 1, 2, 3] rfl)
        · refine lv_iconst (v := nI 1) hx hb dX4_size_27 (by decide) ?_
          refine lv_goto (tgt := 32) hx hb dX4_size_28 (by decide) ?_
          refine lv_iadd hx hb dX4_size_32 ?_
          refine lv_tn (nI (hcnt home j (i + 1))) ((nI_add _ _).trans (congrArg nI (by show _ = hcnt home j i + _; rw [if_pos c2]))) ?_
          refine lv_istore_n (lv' := [(2, .int (nI (hcnt home j (i + 1)))), (3, .int (nI i)), (0, .ref mo), (1, .int r)]) hx hb dX4_size_33 rfl hl (by decide) rfl (fun ls hl => ?_)
          refine lv_iinc (v := nI (i + 1)) (lv' := [(3, .int (nI (i + 1))), (2, .int (nI (hcnt home j (i + 1)))), (0, .ref mo), (1, .int r)]) hx hb dX4_size_34 hl (k := 1) rfl (by rw [show Int32.ofInt 1 = nI 1 from by decide]; exact nI_add (i) 1) (by decide) rfl (fun ls hl => ?_)
          refine lv_goto (tgt := 4) hx hb dX4_size_37 (by decide) ?_
          exact ih (i + 1) _ (by omega) (by omega) (lv_sub hl [0, 1, 2, 3] rfl)
  exact loop (puts + 1) 0 ls (by omega) (Nat.zero_le _) (lv_sub hl [0, 1, 2, 3] rfl)
set_option maxHeartbeats 4000000 in
set_option maxRecDepth 100000 in
/-- isEmpty(r) -/
theorem m_mEmpty (l : Launch) (G : gG) (H0 : Heap) (mo : Nat) (ws : va_W) (puts : Nat) (N : Nat → Nat) (C : Nat → Int32 → Nat) (hMk : Mk G (fun _ => True) H0 mo ws puts N C) (r : Int32) : Met l yX4_isEmpty (ws_ yX4_isEmpty cX4_isEmpty 2 (some .boolean)) ({ frames := 1, cells := 0, slots := 0, locals := 23 }) (PcG G [.ref mo, .int r] H0 (fun _ => False)) (vp_Si (fun y => y = nI (if N (r4 r) = 0 then 1 else 0))) 0 0 (fun _ => False) := by
  refine Met.ofW (cc := cX4_isEmpty) (maxL := 2) (ret := (some .boolean)) (by decide) rfl ?_
  intro p e s m args below meth c s₁ B hml hv
  obtain ⟨rfl, rfl, hG⟩ := hv
  have hx := B.exec
  have hb := B.bytes
  have hr := B.returns
  have hts := atoms_spec (ws := ws_ yX4_isEmpty cX4_isEmpty 2 (some .boolean)) B.pre
  have hts : ∀ w ∈ lw_all, w.before _ s = true := fun w h => hts w (List.mem_cons_of_mem _ h)
  have hown : s.vm.findClass RX4 = some m.cls := findClass_of_methodNamed B.named
  have hlocks := B.notSynchronized
  have hK := hG.K
  have hS : va_S (fun _ => False) s.heap s.heap [] := va_S.rf
  have hl := lv_entry ([.ref mo, .int r]) (n := 2) (Nat.le_of_ble_eq_true rfl)
  rw [lg_entry_eq]
  generalize (lg_sl ([.ref mo, .int r]) ++ List.replicate (2 - (lg_sl ([.ref mo, .int r])).length) Slot.unset).toArray = ls at hl ⊢
  have hl : lv_has ls 2 [(0, .ref mo), (1, .int r)] := hl
  have hle : N (r4 r) ≤ 64 := by
    obtain ⟨ka, hm, keys, home, -, h1, h2, -⟩ := id hMk
    rw [h2 _ (r4_lt r)]
    exact Nat.le_trans (hcnt_le puts) h1
  refine lv_aload_n hx hb dX4_isEmpty_0 rfl (lv_at hl 0 rfl) ?_
  refine lv_iload_n hx hb dX4_isEmpty_1 rfl (lv_at hl 1 rfl) ?_
  refine vp_callSi (va_Run.run (va_runV (As := [.int r]) (rest := []) ⟨hx, hb, hml, hown, hts⟩ (m_mSize l G _ mo ws puts N C hMk r) (cwV 1 hts (lw_V q453 q446 q447 q13 q448) rfl rfl rfl (by decide +kernel) ⟨Nat.le_of_ble_eq_true rfl, Nat.le_of_ble_eq_true rfl⟩) (PcG.v (hMk.recv hK) (hG.ro hS)) rfl rfl hl.1 rfl (lv_room (Nat.le_of_ble_eq_true rfl)) dX4_isEmpty_2 ⟨Nat.le_of_ble_eq_true rfl, Nat.le_of_ble_eq_true rfl⟩)) (fun r1 hr1 => ?_)
  rw [hr1]
  refine bz_ne (tgt := 12) hx hb dX4_isEmpty_5 (by decide) (by omega) (fun c1 => ?_) (fun c1 => ?_)
  · refine lv_iconst (v := nI 0) hx hb dX4_isEmpty_12 (by decide) ?_
    exact W.zret (v := nI 0) hx hb hr rfl (fun t ht hW => ⟨nI 0, rfl, by rw [if_neg c1], ht⟩) hS.2.2 dX4_isEmpty_13
  · refine lv_iconst (v := nI 1) hx hb dX4_isEmpty_8 (by decide) ?_
    refine lv_goto (tgt := 13) hx hb dX4_isEmpty_9 (by decide) ?_
    exact W.zret (v := nI 1) hx hb hr rfl (fun t ht hW => ⟨nI 1, rfl, by rw [if_pos c1], ht⟩) hS.2.2 dX4_isEmpty_13
set_option maxHeartbeats 4000000 in
set_option maxRecDepth 100000 in
/-- least(r) -/
theorem m_mLeast (l : Launch) (G : gG) (H0 : Heap) (mo : Nat) (ws : va_W) (puts : Nat) (N : Nat → Nat) (C : Nat → Int32 → Nat) (hMk : Mk G (fun _ => True) H0 mo ws puts N C) (r : Int32) : Met l yX4_least (ws_ yX4_least cX4_least 3 (some .int)) ({ frames := 1, cells := 0, slots := 0, locals := 23 }) (PcG G [.ref mo, .int r] H0 (fun _ => False)) (vp_Si (fun y => (N (r4 r) = 0 → y = -1) ∧ (N (r4 r) ≠ 0 → isMin C (r4 r) y))) 0 0 (fun _ => False) := by
  refine Met.ofW (cc := cX4_least) (maxL := 3) (ret := (some .int)) (by decide) rfl ?_
  intro p e s m args below meth c s₁ B hml hv
  obtain ⟨rfl, rfl, hG⟩ := hv
  have hx := B.exec
  have hb := B.bytes
  have hr := B.returns
  have hts := atoms_spec (ws := ws_ yX4_least cX4_least 3 (some .int)) B.pre
  have hts : ∀ w ∈ lw_all, w.before _ s = true := fun w h => hts w (List.mem_cons_of_mem _ h)
  have hown : s.vm.findClass RX4 = some m.cls := findClass_of_methodNamed B.named
  have hlocks := B.notSynchronized
  have hK := hG.K
  have hS : va_S (fun _ => False) s.heap s.heap [] := va_S.rf
  have hl := lv_entry ([.ref mo, .int r]) (n := 3) (Nat.le_of_ble_eq_true rfl)
  rw [lg_entry_eq]
  generalize (lg_sl ([.ref mo, .int r]) ++ List.replicate (3 - (lg_sl ([.ref mo, .int r])).length) Slot.unset).toArray = ls at hl ⊢
  have hl : lv_has ls 3 [(0, .ref mo), (1, .int r)] := hl
  have hrc := hMk.recv hK
  obtain ⟨ka, hm, keys, home, rfl, hp64, hN, hC, hP, hD⟩ := hMk
  refine lv_aload_n hx hb dX4_least_0 rfl (lv_at hl 0 rfl) ?_
  refine lv_iload_n hx hb dX4_least_1 rfl (lv_at hl 1 rfl) ?_
  refine vp_callSi (va_Run.run (va_runV (As := [.int r]) (rest := []) ⟨hx, hb, hml, hown, hts⟩ (m_mFirst l G _ mo ka hm puts keys home r hp64 hP) (cwV 1 hts (lw_V q437 q439 qs2 q13 q440) rfl rfl rfl (by decide +kernel) ⟨Nat.le_of_ble_eq_true rfl, Nat.le_of_ble_eq_true rfl⟩) (PcG.v hrc (hG.ro hS)) rfl rfl hl.1 rfl (lv_room (Nat.le_of_ble_eq_true rfl)) dX4_least_2 ⟨Nat.le_of_ble_eq_true rfl, Nat.le_of_ble_eq_true rfl⟩)) (fun r1 hr1 => ?_)
  have hj4 := r4_lt r
  generalize r4 r = j at hr1 hj4 ⊢
  have hNj := hN j hj4
  rcases hr1 with ⟨rfl, h2⟩ | ⟨b, h1, rfl, h3, h4⟩
  · rw [hcnt_zero h2] at hNj
    refine lv_istore_n (lv' := [(2, .int ((-1))), (0, .ref mo), (1, .int r)]) hx hb dX4_least_5 rfl hl (by decide) rfl (fun ls hl => ?_)
    refine lv_iload_n hx hb dX4_least_6 rfl (lv_at hl 0 rfl) ?_
    refine lv_if_ge (tgt := 14) hx hb dX4_least_7 (by decide) (fun c1 => ?_) (fun c1 => ?_)
    · exact absurd c1 (by decide)
    · refine lv_iconst (v := (-1)) hx hb dX4_least_10 (by decide) ?_
      refine lv_goto (tgt := 20) hx hb dX4_least_11 (by decide) ?_
      exact W.iret (v := (-1)) hx hb hr (fun t ht hW => ⟨_, rfl, ⟨fun _ => rfl, fun z => absurd hNj z⟩, ht⟩) hS.2.2 dX4_least_20
  · have hpos : N j ≠ 0 := by rw [hNj]; exact Nat.pos_iff_ne_zero.mp (hcnt_pos.mpr ⟨b, h1, h3⟩)
    refine lv_istore_n (lv' := [(2, .int (nI b)), (0, .ref mo), (1, .int r)]) hx hb dX4_least_5 rfl hl (by decide) rfl (fun ls hl => ?_)
    refine lv_iload_n hx hb dX4_least_6 rfl (lv_at hl 0 rfl) ?_
    refine lv_if_ge (tgt := 14) hx hb dX4_least_7 (by decide) (fun c1 => ?_) (fun c1 => ?_)
    · refine lv_aload_n hx hb dX4_least_14 rfl (lv_at hl 1 rfl) ?_
      refine va_get (D := G.1) (ci := 2) (v := .ref ka) (C := RX4) (T := TX4) (N := 3) hx hb hts in_X4 hown hK hP 0 rfl rfl 0 (by decide) (hts _ q408) (fun _ h9 => h9) rfl dX4_least_15 ?_
      refine lv_iload_n hx hb dX4_least_18 rfl (lv_at hl 0 rfl) ?_
      refine ild hx hb hK hP 1 3 rfl rfl (by omega) (by decide) dX4_least_19 ?_
      exact W.iret (v := keys b) hx hb hr (fun t ht hW => ⟨_, rfl, ⟨fun z => absurd z hpos, fun _ => mMin_of (hC j hj4) h1 h3 h4⟩, ht⟩) hS.2.2 dX4_least_20
    · exact absurd (nI_pos' (by omega)) c1
set_option maxHeartbeats 4000000 in
set_option maxRecDepth 100000 in
/-- takeLeast(r) -/
theorem m_mTake (l : Launch) (G : gG) (H0 : Heap) (mo : Nat) (ws : va_W) (puts : Nat) (N : Nat → Nat) (C : Nat → Int32 → Nat) (hMk : Mk G (fun _ => True) H0 mo ws puts N C) (r : Int32) : Met l yX4_takeLeast (ws_ yX4_takeLeast cX4_takeLeast 3 (some .int)) ({ frames := 1, cells := 0, slots := 0, locals := 23 }) (PcG G [.ref mo, .int r] H0 (va_A ws H0.size)) (va_Qi (fun (y : Int32) (u : va_W × (Nat → Nat) × (Nat → Int32 → Nat)) => (N (r4 r) = 0 → y = -1 ∧ u.2 = (N, C)) ∧ (N (r4 r) ≠ 0 → isMin C (r4 r) y ∧ u.2 = (va_up N (r4 r) (N (r4 r) - 1), cSub C (r4 r) y))) (fun u t => Mk G (va_A ws H0.size) t.heap mo u.1 puts u.2.1 u.2.2) (va_A ws H0.size)) 0 0 (va_A ws H0.size) := by
  refine Met.ofW (cc := cX4_takeLeast) (maxL := 3) (ret := (some .int)) (by decide) rfl ?_
  intro p e s m args below meth c s₁ B hml hv
  obtain ⟨rfl, rfl, hG⟩ := hv
  have hx := B.exec
  have hb := B.bytes
  have hr := B.returns
  have hts := atoms_spec (ws := ws_ yX4_takeLeast cX4_takeLeast 3 (some .int)) B.pre
  have hts : ∀ w ∈ lw_all, w.before _ s = true := fun w h => hts w (List.mem_cons_of_mem _ h)
  have hown : s.vm.findClass RX4 = some m.cls := findClass_of_methodNamed B.named
  have hlocks := B.notSynchronized
  have hK := hG.K
  have hMk := hMk.wk (hMk.D.self (sz := s.heap.size))
  generalize hAe : va_A ws s.heap.size = A at hMk hG ⊢
  have hA : ∀ q : Nat, s.heap.size ≤ q → A q := fun q h => by rw [← hAe]; exact Or.inr h
  have hS : va_S A s.heap s.heap [] := va_S.rf
  have hl := lv_entry ([.ref mo, .int r]) (n := 3) (Nat.le_of_ble_eq_true rfl)
  rw [lg_entry_eq]
  generalize (lg_sl ([.ref mo, .int r]) ++ List.replicate (3 - (lg_sl ([.ref mo, .int r])).length) Slot.unset).toArray = ls at hl ⊢
  have hl : lv_has ls 3 [(0, .ref mo), (1, .int r)] := hl
  have hrc := hMk.recv hK
  obtain ⟨ws0, hMk0⟩ : ∃ w9 : va_W, Mk G A s.heap mo w9 puts N C := ⟨_, hMk⟩
  obtain ⟨ka, hm, keys, home, rfl, hp64, hN, hC, hP, hD⟩ := hMk
  refine lv_aload_n hx hb dX4_takeLeast_0 rfl (lv_at hl 0 rfl) ?_
  refine lv_iload_n hx hb dX4_takeLeast_1 rfl (lv_at hl 1 rfl) ?_
  refine vp_callSi (va_Run.run (va_runV (As := [.int r]) (rest := []) ⟨hx, hb, hml, hown, hts⟩ (m_mFirst l G _ mo ka hm puts keys home r hp64 hP) (cwV 1 hts (lw_V q437 q439 qs2 q13 q440) rfl rfl rfl (by decide +kernel) ⟨Nat.le_of_ble_eq_true rfl, Nat.le_of_ble_eq_true rfl⟩) (PcG.v hrc (hG.ro hS)) rfl rfl hl.1 rfl (lv_room (Nat.le_of_ble_eq_true rfl)) dX4_takeLeast_2 ⟨Nat.le_of_ble_eq_true rfl, Nat.le_of_ble_eq_true rfl⟩)) (fun r1 hr1 => ?_)
  have hj4 := r4_lt r
  generalize r4 r = j at hr1 hj4 ⊢
  have hNj := hN j hj4
  rcases hr1 with ⟨rfl, h2⟩ | ⟨b, h1, rfl, h3, h4⟩
  · rw [hcnt_zero h2] at hNj
    refine lv_istore_n (lv' := [(2, .int ((-1))), (0, .ref mo), (1, .int r)]) hx hb dX4_takeLeast_5 rfl hl (by decide) rfl (fun ls hl => ?_)
    refine lv_iload_n hx hb dX4_takeLeast_6 rfl (lv_at hl 0 rfl) ?_
    refine lv_if_ge (tgt := 12) hx hb dX4_takeLeast_7 (by decide) (fun c1 => ?_) (fun c1 => ?_)
    · exact absurd c1 (by decide)
    · refine lv_iconst (v := (-1)) hx hb dX4_takeLeast_10 (by decide) ?_
      exact W.iret (v := (-1)) hx hb hr (fun t ht hW => ⟨⟨-1, (ws0, N, C), rfl, ⟨fun _ => ⟨rfl, rfl⟩, fun z => absurd hNj z⟩, by dsimp only; rw [ht]; exact hMk0⟩, hS.F ht⟩) hS.2.2 dX4_takeLeast_11
  · have hpos : N j ≠ 0 := by rw [hNj]; exact Nat.pos_iff_ne_zero.mp (hcnt_pos.mpr ⟨b, h1, h3⟩)
    refine lv_istore_n (lv' := [(2, .int (nI b)), (0, .ref mo), (1, .int r)]) hx hb dX4_takeLeast_5 rfl hl (by decide) rfl (fun ls hl => ?_)
    refine lv_iload_n hx hb dX4_takeLeast_6 rfl (lv_at hl 0 rfl) ?_
    refine lv_if_ge (tgt := 12) hx hb dX4_takeLeast_7 (by decide) (fun c1 => ?_) (fun c1 => ?_)
    · refine lv_aload_n hx hb dX4_takeLeast_12 rfl (lv_at hl 1 rfl) ?_
      refine va_get (D := G.1) (ci := 2) (v := .ref hm) (C := RX4) (T := TX4) (N := 3) hx hb hts in_X4 hown hK hP 0 rfl rfl 1 (by decide) (hts _ q409) (fun _ h9 => h9) rfl dX4_takeLeast_13 ?_
      refine lv_iload_n hx hb dX4_takeLeast_16 rfl (lv_at hl 0 rfl) ?_
      refine lv_iconst (v := nI 0) hx hb dX4_takeLeast_17 (by decide) ?_
      refine ist hx hb hK hP hD hS 2 3 rfl rfl (by omega) (by decide) dX4_takeLeast_18 (fun H92 locs hP hD hS => ?_)
      have hP : va_P G.1 vwCl [(mo, .inr (2, [.ref ka, .ref hm, .int (nI puts)])), (ka, .inl (G.2.1 3, iA (64) (keys))), (hm, .inl (G.2.1 3, iA (64) (upd (home) (b) (nI 0))))] H92 := hP
      have hD : va_D A [(mo, .inr (2, [.ref ka, .ref hm, .int (nI puts)])), (ka, .inl (G.2.1 3, iA (64) (keys))), (hm, .inl (G.2.1 3, iA (64) (upd (home) (b) (nI 0))))] := hD
      refine lv_aload_n hx hb dX4_takeLeast_19 rfl (lv_at hl 1 rfl) ?_
      refine va_get (D := G.1) (ci := 2) (v := .ref ka) (C := RX4) (T := TX4) (N := 3) hx hb hts in_X4 hown hK hP 0 rfl rfl 0 (by decide) (hts _ q408) (fun _ h9 => h9) rfl dX4_takeLeast_20 ?_
      refine lv_iload_n hx hb dX4_takeLeast_23 rfl (lv_at hl 0 rfl) ?_
      refine ild hx hb hK hP 1 3 rfl rfl (by omega) (by decide) dX4_takeLeast_24 ?_
      obtain ⟨w9, hfin⟩ : ∃ w9 : va_W, Mk G A H92 mo w9 puts (va_up N j (N j - 1)) (cSub C j (keys b)) := by
        refine ⟨_, ka, hm, keys, upd home b (nI 0), rfl, hp64, fun i hi => ?_, fun i hi z => ?_, hP, hD⟩
        · have h9 := hcnt_set (home := home) (i := i) (nI 0) h1
          have z0 : (nI 0 = nI (1 + i)) = False := eq_false (h1_ne hi)
          simp only [z0, if_false, Nat.add_zero, h3] at h9
          by_cases hij : i = j
          · rw [hij, va_up_self, hNj]
            rw [hij, if_pos rfl] at h9
            omega
          · rw [va_up_ne _ _ hij, hN i hi]
            rw [if_neg (fun z => hij ((h1_inj hj4 hi).mp z).symm)] at h9
            exact h9.symm
        · have h9 := mcnt_set (keys := keys) (home := home) (i := i) (nI 0) z h1
          have z0 : (nI 0 = nI (1 + i)) = False := eq_false (h1_ne hi)
          unfold cSub
          rw [hC i hi z]
          by_cases hij : i = j
          · have x1 : (home b = nI (1 + i)) = True := eq_true (by rw [hij]; exact h3)
            simp only [z0, x1, true_and, false_and, if_false] at h9
            simp only [hij, true_and]
            rw [hij] at h9
            omega
          · have x1 : (home b = nI (1 + i)) = False := eq_false (fun q => hij ((h1_inj hj4 hi).mp (h3.symm.trans q)).symm)
            simp only [z0, x1, false_and, if_false, Nat.add_zero] at h9
            simp only [hij, false_and, if_false, Nat.sub_zero]
            exact h9.symm
      exact W.iret (v := keys b) hx hb hr (fun t ht hW => ⟨⟨keys b, (w9, va_up N j (N j - 1), cSub C j (keys b)), rfl, ⟨fun z => absurd z hpos, fun _ => ⟨mMin_of (hC j hj4) h1 h3 h4, rfl⟩⟩, by dsimp only; rw [ht]; exact hfin⟩, hS.F ht⟩) hS.2.2 dX4_takeLeast_25
    · exact absurd (nI_pos' (by omega)) c1
set_option maxHeartbeats 4000000 in
set_option maxRecDepth 100000 in
/-- clear(r) -/
theorem m_mClear (l : Launch) (G : gG) (H0 : Heap) (mo : Nat) (ws : va_W) (puts : Nat) (N : Nat → Nat) (C : Nat → Int32 → Nat) (hMk : Mk G (fun _ => True) H0 mo ws puts N C) (r : Int32) : Met l yX4_clear (ws_ yX4_clear cX4_clear 3 none) ({ frames := 0, cells := 0, slots := 0, locals := 0 }) (PcG G [.ref mo, .int r] H0 (va_A ws H0.size)) (va_Qv (fun _ : va_W => True) (fun u t => Mk G (va_A ws H0.size) t.heap mo u puts (va_up N (r4 r) 0) (cClr C (r4 r))) (va_A ws H0.size)) 0 0 (va_A ws H0.size) := by
  refine Met.ofW (cc := cX4_clear) (maxL := 3) (ret := none) (by decide) rfl ?_
  intro p e s m args below meth c s₁ B hml hv
  obtain ⟨rfl, rfl, hG⟩ := hv
  have hx := B.exec
  have hb := B.bytes
  have hr := B.returns
  have hts := atoms_spec (ws := ws_ yX4_clear cX4_clear 3 none) B.pre
  have hts : ∀ w ∈ lw_all, w.before _ s = true := fun w h => hts w (List.mem_cons_of_mem _ h)
  have hown : s.vm.findClass RX4 = some m.cls := findClass_of_methodNamed B.named
  have hlocks := B.notSynchronized
  have hK := hG.K
  have hMk := hMk.wk (hMk.D.self (sz := s.heap.size))
  generalize hAe : va_A ws s.heap.size = A at hMk hG ⊢
  have hA : ∀ q : Nat, s.heap.size ≤ q → A q := fun q h => by rw [← hAe]; exact Or.inr h
  have hS : va_S A s.heap s.heap [] := va_S.rf
  have hl := lv_entry ([.ref mo, .int r]) (n := 3) (Nat.le_of_ble_eq_true rfl)
  rw [lg_entry_eq]
  generalize (lg_sl ([.ref mo, .int r]) ++ List.replicate (3 - (lg_sl ([.ref mo, .int r])).length) Slot.unset).toArray = ls at hl ⊢
  have hl : lv_has ls 3 [(0, .ref mo), (1, .int r)] := hl
  have hra := r4_and r
  have hj4 := r4_lt r
  generalize hje : r4 r = j at hra hj4 ⊢
  obtain ⟨ka, hm, keys, home, rfl, hp64, hN, hC, hP, hD⟩ := hMk
  refine lv_iconst (v := nI 0) hx hb dX4_clear_0 (by decide) ?_
  refine lv_istore_n (lv' := [(2, .int (nI 0)), (0, .ref mo), (1, .int r)]) hx hb dX4_clear_1 rfl hl (by decide) rfl (fun ls hl => ?_)
  have loop : ∀ (fuel i : Nat) (H : Heap) (locs : List Loc) (ls : Array Slot), puts - i < fuel → i ≤ puts → va_P G.1 vwCl [(mo, .inr (2, [.ref ka, .ref hm, .int (nI puts)])), (ka, .inl (G.2.1 3, iA (64) (keys))), (hm, .inl (G.2.1 3, iA (64) (clf home j i)))] H → va_D A [(mo, .inr (2, [.ref ka, .ref hm, .int (nI puts)])), (ka, .inl (G.2.1 3, iA (64) (keys))), (hm, .inl (G.2.1 3, iA (64) (clf home j i)))] → va_S A s.heap H locs → lv_has ls 3 [(2, .int (nI i)), (0, .ref mo), (1, .int r)] → W p l e (headSpec (ws_ yX4_clear cX4_clear 3 none) ({ frames := 0, cells := 0, slots := 0, locals := 0 })).room s m ([.ref mo, .int r] : List Value).toArray below meth c H locs 0 0 (MQ below (va_Qv (fun _ : va_W => True) (fun u t => Mk G (A) t.heap mo u puts (va_up N j 0) (cClr C j)) (A)) ([.ref mo, .int r] : List Value).toArray s 0 0 (A)) (F0 m 2 ls []) := by
    intro fuel
    induction fuel with
    | zero =>
      intro i H locs ls hfu
      exact absurd hfu (Nat.not_lt_zero _)
    | succ fuel ih =>
      intro i H locs ls hfu hip hP hD hS hl
      refine lv_iload_n hx hb dX4_clear_2 rfl (lv_at hl 0 rfl) ?_
      refine lv_aload_n hx hb dX4_clear_3 rfl (lv_at hl 1 rfl) ?_
      refine va_get (D := G.1) (ci := 2) (v := .int (nI puts)) (C := RX4) (T := TX4) (N := 3) hx hb hts in_X4 hown hK hP 0 rfl rfl 2 (by decide) (hts _ q410) (fun _ h9 => h9) rfl dX4_clear_4 ?_
      refine bn_ge (tgt := 37) hx hb dX4_clear_7 (by decide) (by omega) (by omega) (fun c1 => ?_) (fun c1 => ?_)
      · have hi9 : i = puts := by omega
        rw [hi9] at hP hD
        obtain ⟨w9, hfin⟩ : ∃ w9 : va_W, Mk G A H mo w9 puts (va_up N j 0) (cClr C j) := by
          refine ⟨_, ka, hm, keys, clf home j puts, rfl, hp64, fun i hi => ?_, fun i hi z => ?_, hP, hD⟩
          · rw [hcnt_clf hi hj4 puts (Nat.le_refl _), ← hN i hi]
            rfl
          · rw [mcnt_clf hi hj4 puts (Nat.le_refl _), ← hC i hi z]
            rfl
        exact W.vret hx hb hr (fun t ht hW => ⟨⟨w9, rfl, trivial, by dsimp only; rw [ht]; exact hfin⟩, hS.F ht⟩) hS.2.2 dX4_clear_37
      · refine lv_aload_n hx hb dX4_clear_10 rfl (lv_at hl 1 rfl) ?_
        refine va_get (D := G.1) (ci := 2) (v := .ref hm) (C := RX4) (T := TX4) (N := 3) hx hb hts in_X4 hown hK hP 0 rfl rfl 1 (by decide) (hts _ q409) (fun _ h9 => h9) rfl dX4_clear_11 ?_
        refine lv_iload_n hx hb dX4_clear_14 rfl (lv_at hl 0 rfl) ?_
        refine ild hx hb hK hP 2 3 rfl rfl (by omega) (by decide) dX4_clear_15 ?_
        refine lv_tn (home i) (clf_at home j i) ?_
        refine lv_iconst (v := nI 1) hx hb dX4_clear_16 (by decide) ?_
        refine lv_iload_n hx hb dX4_clear_17 rfl (lv_at hl 2 rfl) ?_
        refine lv_iconst (v := nI 3) hx hb dX4_clear_18 (by decide) ?_
        refine lv_iand hx hb dX4_clear_19 ?_
        refine lv_tn (nI (j)) (hra) ?_
        refine lv_iadd hx hb dX4_clear_20 ?_
        refine lv_tn (nI (1 + j)) (nI_add _ _) ?_
        refine lv_icmp_ne (tgt := 31) hx hb dX4_clear_21 (by decide) (fun c2 => ?_) (fun c2 => ?_)
        · rw [clf_n c2] at hP hD
          refine lv_iinc (v := nI (i + 1)) (lv' := [(2, .int (nI (i + 1))), (0, .ref mo), (1, .int r)]) hx hb dX4_clear_31 hl (k := 0) rfl (by rw [show Int32.ofInt 1 = nI 1 from by decide]; exact nI_add (i) 1) (by decide) rfl (fun ls hl => ?_)
          refine lv_goto (tgt := 2) hx hb dX4_clear_34 (by decide) ?_
          exact ih (i + 1) _ _ _ (by omega) (by omega) hP hD hS (lv_sub hl [0, 1, 2] rfl)
        · refine lv_aload_n hx hb dX4_clear_24 rfl (lv_at hl 1 rfl) ?_
          refine va_get (D := G.1) (ci := 2) (v := .ref hm) (C := RX4) (T := TX4) (N := 3) hx hb hts in_X4 hown hK hP 0 rfl rfl 1 (by decide) (hts _ q409) (fun _ h9 => h9) rfl dX4_clear_25 ?_
          refine lv_iload_n hx hb dX4_clear_28 rfl (lv_at hl 0 rfl) ?_
          refine lv_iconst (v := nI 0) hx hb dX4_clear_29 (by decide) ?_
          refine ist hx hb hK hP hD hS 2 3 rfl rfl (by omega) (by decide) dX4_clear_30 (fun H93 locs hP hD hS => ?_)
          have hP : va_P G.1 vwCl [(mo, .inr (2, [.ref ka, .ref hm, .int (nI puts)])), (ka, .inl (G.2.1 3, iA (64) (keys))), (hm, .inl (G.2.1 3, iA (64) (upd (clf home j i) (i) (nI 0))))] H93 := hP
          have hD : va_D A [(mo, .inr (2, [.ref ka, .ref hm, .int (nI puts)])), (ka, .inl (G.2.1 3, iA (64) (keys))), (hm, .inl (G.2.1 3, iA (64) (upd (clf home j i) (i) (nI 0))))] := hD
          have hP : va_P G.1 vwCl [(mo, .inr (2, [.ref ka, .ref hm, .int (nI puts)])), (ka, .inl (G.2.1 3, iA (64) (keys))), (hm, .inl (G.2.1 3, iA (64) (upd (clf home j i) i 0)))] H93 := hP
          have hD : va_D A [(mo, .inr (2, [.ref ka, .ref hm, .int (nI puts)])), (ka, .inl (G.2.1 3, iA (64) (keys))), (hm, .inl (G.2.1 3, iA (64) (upd (clf home j i) i 0)))] := hD
          rw [clf_y c2] at hP hD
          refine lv_iinc (v := nI (i + 1)) (lv' := [(2, .int (nI (i + 1))), (0, .ref mo), (1, .int r)]) hx hb dX4_clear_31 hl (k := 0) rfl (by rw [show Int32.ofInt 1 = nI 1 from by decide]; exact nI_add (i) 1) (by decide) rfl (fun ls hl => ?_)
          refine lv_goto (tgt := 2) hx hb dX4_clear_34 (by decide) ?_
          exact ih (i + 1) _ _ _ (by omega) (by omega) hP hD hS (lv_sub hl [0, 1, 2] rfl)
  exact loop (puts + 1) 0 _ _ ls (by omega) (Nat.zero_le _) (by rw [clf_0]; exact hP) (by rw [clf_0]; exact hD) hS (lv_sub hl [0, 1, 2] rfl)
set_option maxHeartbeats 4000000 in
set_option maxRecDepth 100000 in
/-- pour(r, q) -/
theorem m_mPour (l : Launch) (G : gG) (H0 : Heap) (mo : Nat) (ws : va_W) (puts : Nat) (N : Nat → Nat) (C : Nat → Int32 → Nat) (hMk : Mk G (fun _ => True) H0 mo ws puts N C) (r q : Int32) : Met l yX4_pour (ws_ yX4_pour cX4_pour 5 (some .int)) ({ frames := 0, cells := 0, slots := 0, locals := 0 }) (PcG G [.ref mo, .int r, .int q] H0 (va_A ws H0.size)) (va_Qi (fun (y : Int32) (u : va_W × (Nat → Nat) × (Nat → Int32 → Nat)) => ((r4 r) = (r4 q) → y = -1 ∧ u.2 = (N, C)) ∧ ((r4 r) ≠ (r4 q) → y = nI (N (r4 q)) ∧ u.2 = (nPour N (r4 r) (r4 q), cPour C (r4 r) (r4 q)))) (fun u t => Mk G (va_A ws H0.size) t.heap mo u.1 puts u.2.1 u.2.2) (va_A ws H0.size)) 0 0 (va_A ws H0.size) := by
  refine Met.ofW (cc := cX4_pour) (maxL := 5) (ret := (some .int)) (by decide) rfl ?_
  intro p e s m args below meth c s₁ B hml hv
  obtain ⟨rfl, rfl, hG⟩ := hv
  have hx := B.exec
  have hb := B.bytes
  have hr := B.returns
  have hts := atoms_spec (ws := ws_ yX4_pour cX4_pour 5 (some .int)) B.pre
  have hts : ∀ w ∈ lw_all, w.before _ s = true := fun w h => hts w (List.mem_cons_of_mem _ h)
  have hown : s.vm.findClass RX4 = some m.cls := findClass_of_methodNamed B.named
  have hlocks := B.notSynchronized
  have hK := hG.K
  have hMk := hMk.wk (hMk.D.self (sz := s.heap.size))
  generalize hAe : va_A ws s.heap.size = A at hMk hG ⊢
  have hA : ∀ q : Nat, s.heap.size ≤ q → A q := fun q h => by rw [← hAe]; exact Or.inr h
  have hS : va_S A s.heap s.heap [] := va_S.rf
  have hl := lv_entry ([.ref mo, .int r, .int q]) (n := 5) (Nat.le_of_ble_eq_true rfl)
  rw [lg_entry_eq]
  generalize (lg_sl ([.ref mo, .int r, .int q]) ++ List.replicate (5 - (lg_sl ([.ref mo, .int r, .int q])).length) Slot.unset).toArray = ls at hl ⊢
  have hl : lv_has ls 5 [(0, .ref mo), (1, .int r), (2, .int q)] := hl
  have hra := r4_and r
  have ha4 := r4_lt r
  generalize hae : r4 r = a at hra ha4 ⊢
  have hrb := r4_and q
  have hb4 := r4_lt q
  generalize hbe : r4 q = b at hrb hb4 ⊢
  obtain ⟨ws0, hMk0⟩ : ∃ w9 : va_W, Mk G A s.heap mo w9 puts N C := ⟨_, hMk⟩
  obtain ⟨ka, hm, keys, home, rfl, hp64, hN, hC, hP, hD⟩ := hMk
  refine lv_iload_n hx hb dX4_pour_0 rfl (lv_at hl 1 rfl) ?_
  refine lv_iconst (v := nI 3) hx hb dX4_pour_1 (by decide) ?_
  refine lv_iand hx hb dX4_pour_2 ?_
  refine lv_tn (nI (a)) (hra) ?_
  refine lv_iload_n hx hb dX4_pour_3 rfl (lv_at hl 2 rfl) ?_
  refine lv_iconst (v := nI 3) hx hb dX4_pour_4 (by decide) ?_
  refine lv_iand hx hb dX4_pour_5 ?_
  refine lv_tn (nI (b)) (hrb) ?_
  refine bn_ne (tgt := 11) hx hb dX4_pour_6 (by decide) (by omega) (by omega) (fun hab => ?_) (fun hab => ?_)
  · refine lv_iconst (v := nI 0) hx hb dX4_pour_11 (by decide) ?_
    refine lv_istore_n (lv' := [(3, .int (nI 0)), (0, .ref mo), (1, .int r), (2, .int q)]) hx hb dX4_pour_12 rfl hl (by decide) rfl (fun ls hl => ?_)
    refine lv_iconst (v := nI 0) hx hb dX4_pour_13 (by decide) ?_
    refine lv_istore (lv' := [(4, .int (nI 0)), (3, .int (nI 0)), (0, .ref mo), (1, .int r), (2, .int q)]) hx hb dX4_pour_14 hl (by decide) rfl (fun ls hl => ?_)
    have loop : ∀ (fuel i : Nat) (H : Heap) (locs : List Loc) (ls : Array Slot), puts - i < fuel → i ≤ puts → va_P G.1 vwCl [(mo, .inr (2, [.ref ka, .ref hm, .int (nI puts)])), (ka, .inl (G.2.1 3, iA (64) (keys))), (hm, .inl (G.2.1 3, iA (64) (pof home a b i)))] H → va_D A [(mo, .inr (2, [.ref ka, .ref hm, .int (nI puts)])), (ka, .inl (G.2.1 3, iA (64) (keys))), (hm, .inl (G.2.1 3, iA (64) (pof home a b i)))] → va_S A s.heap H locs → lv_has ls 5 [(4, .int (nI i)), (3, .int (nI (hcnt home b i))), (0, .ref mo), (1, .int r), (2, .int q)] → W p l e (headSpec (ws_ yX4_pour cX4_pour 5 (some .int)) ({ frames := 0, cells := 0, slots := 0, locals := 0 })).room s m ([.ref mo, .int r, .int q] : List Value).toArray below meth c H locs 0 0 (MQ below (va_Qi (fun (y : Int32) (u : va_W × (Nat → Nat) × (Nat → Int32 → Nat)) => (a = b → y = -1 ∧ u.2 = (N, C)) ∧ (a ≠ b → y = nI (N b) ∧ u.2 = (nPour N a b, cPour C a b))) (fun u t => Mk G (A) t.heap mo u.1 puts u.2.1 u.2.2) (A)) ([.ref mo, .int r, .int q] : List Value).toArray s 0 0 (A)) (F0 m 16 ls []) := by
      intro fuel
      induction fuel with
      | zero =>
        intro i H locs ls hfu
        exact absurd hfu (Nat.not_lt_zero _)
      | succ fuel ih =>
        intro i H locs ls hfu hip hP hD hS hl
        refine lv_iload hx hb dX4_pour_16 (lv_at hl 0 rfl) ?_
        refine lv_aload_n hx hb dX4_pour_18 rfl (lv_at hl 2 rfl) ?_
        refine va_get (D := G.1) (ci := 2) (v := .int (nI puts)) (C := RX4) (T := TX4) (N := 3) hx hb hts in_X4 hown hK hP 0 rfl rfl 2 (by decide) (hts _ q410) (fun _ h9 => h9) rfl dX4_pour_19 ?_
        refine bn_ge (tgt := 62) hx hb dX4_pour_22 (by decide) (by omega) (by omega) (fun c1 => ?_) (fun c1 => ?_)
        · have hi9 : i = puts := by omega
          rw [hi9] at hP hD
          obtain ⟨w9, hfin⟩ : ∃ w9 : va_W, Mk G A H mo w9 puts (nPour N a b) (cPour C a b) := by
            refine ⟨_, ka, hm, keys, pof home a b puts, rfl, hp64, fun i hi => ?_, fun i hi z => ?_, hP, hD⟩
            · rw [hcnt_pof hi ha4 hb4 hab puts (Nat.le_refl _), ← hN i hi, ← hN a ha4, ← hN b hb4]
              rfl
            · rw [mcnt_pof hi ha4 hb4 hab puts (Nat.le_refl _), ← hC i hi z, ← hC a ha4 z, ← hC b hb4 z]
              unfold cPour
              by_cases e1 : i = a
              · have e2 : ¬ i = b := fun q => hab (e1.symm.trans q)
                rw [if_pos e1, if_neg e2, if_pos e1]
              · rw [if_neg e1]
                by_cases e2 : i = b
                · rw [if_pos e2, if_pos e2]
                · rw [if_neg e2, if_neg e2, if_neg e1]
          refine lv_iload_n hx hb dX4_pour_62 rfl (lv_at hl 1 rfl) ?_
          rw [hi9, ← hN b hb4]
          exact W.iret (v := nI (N b)) hx hb hr (fun t ht hW => ⟨⟨nI (N b), (w9, nPour N a b, cPour C a b), rfl, ⟨fun z => absurd z hab, fun _ => ⟨rfl, rfl⟩⟩, by dsimp only; rw [ht]; exact hfin⟩, hS.F ht⟩) hS.2.2 dX4_pour_63
        · refine lv_aload_n hx hb dX4_pour_25 rfl (lv_at hl 2 rfl) ?_
          refine va_get (D := G.1) (ci := 2) (v := .ref hm) (C := RX4) (T := TX4) (N := 3) hx hb hts in_X4 hown hK hP 0 rfl rfl 1 (by decide) (hts _ q409) (fun _ h9 => h9) rfl dX4_pour_26 ?_
          refine lv_iload hx hb dX4_pour_29 (lv_at hl 0 rfl) ?_
          refine ild hx hb hK hP 2 3 rfl rfl (by omega) (by decide) dX4_pour_31 ?_
          refine lv_tn (home i) (pof_at home a b i) ?_
          refine lv_iconst (v := nI 1) hx hb dX4_pour_32 (by decide) ?_
          refine lv_iload_n hx hb dX4_pour_33 rfl (lv_at hl 4 rfl) ?_
          refine lv_iconst (v := nI 3) hx hb dX4_pour_34 (by decide) ?_
          refine lv_iand hx hb dX4_pour_35 ?_
          refine lv_tn (nI (b)) (hrb) ?_
          refine lv_iadd hx hb dX4_pour_36 ?_
          refine lv_tn (nI (1 + b)) (nI_add _ _) ?_
          refine lv_icmp_ne (tgt := 56) hx hb dX4_pour_37 (by decide) (fun c2 => ?_) (fun c2 => ?_)
          · have hc9 : hcnt home b i = hcnt home b (i + 1) := by
              show _ = hcnt home b i + _
              rw [if_neg c2]; rfl
            rw [hc9] at hl
            rw [pof_n c2] at hP hD
            refine lv_iinc (v := nI (i + 1)) (lv' := [(4, .int (nI (i + 1))), (3, .int (nI (hcnt home b (i + 1)))), (0, .ref mo), (1, .int r), (2, .int q)]) hx hb dX4_pour_56 hl (k := 0) rfl (by rw [show Int32.ofInt 1 = nI 1 from by decide]; exact nI_add (i) 1) (by decide) rfl (fun ls hl => ?_)
            refine lv_goto (tgt := 16) hx hb dX4_pour_59 (by decide) ?_
            exact ih (i + 1) _ _ _ (by omega) (by omega) hP hD hS (lv_sub hl [0, 1, 2, 3, 4] rfl)
          · refine lv_aload_n hx hb dX4_pour_40 rfl (lv_at hl 2 rfl) ?_
            refine va_get (D := G.1) (ci := 2) (v := .ref hm) (C := RX4) (T := TX4) (N := 3) hx hb hts in_X4 hown hK hP 0 rfl rfl 1 (by decide) (hts _ q409) (fun _ h9 => h9) rfl dX4_pour_41 ?_
            refine lv_iload hx hb dX4_pour_44 (lv_at hl 0 rfl) ?_
            refine lv_iconst (v := nI 1) hx hb dX4_pour_46 (by decide) ?_
            refine lv_iload_n hx hb dX4_pour_47 rfl (lv_at hl 3 rfl) ?_
            refine lv_iconst (v := nI 3) hx hb dX4_pour_48 (by decide) ?_
            refine lv_iand hx hb dX4_pour_49 ?_
            refine lv_tn (nI (a)) (hra) ?_
            refine lv_iadd hx hb dX4_pour_50 ?_
            refine lv_tn (nI (1 + a)) (nI_add _ _) ?_
            refine ist hx hb hK hP hD hS 2 3 rfl rfl (by omega) (by decide) dX4_pour_51 (fun H94 locs hP hD hS => ?_)
            have hP : va_P G.1 vwCl [(mo, .inr (2, [.ref ka, .ref hm, .int (nI puts)])), (ka, .inl (G.2.1 3, iA (64) (keys))), (hm, .inl (G.2.1 3, iA (64) (upd (pof home a b i) (i) (nI (1 + a)))))] H94 := hP
            have hD : va_D A [(mo, .inr (2, [.ref ka, .ref hm, .int (nI puts)])), (ka, .inl (G.2.1 3, iA (64) (keys))), (hm, .inl (G.2.1 3, iA (64) (upd (pof home a b i) (i) (nI (1 + a)))))] := hD
            refine lv_iload_n hx hb dX4_pour_52 rfl (lv_at hl 1 rfl) ?_
            refine lv_iconst (v := nI 1) hx hb dX4_pour_53 (by decide) ?_
            refine lv_iadd hx hb dX4_pour_54 ?_
            refine lv_tn (nI (hcnt home b (i + 1))) ((nI_add _ _).trans (congrArg nI (by show _ = hcnt home b i + _; rw [if_pos c2]))) ?_
            refine lv_istore_n (lv' := [(3, .int (nI (hcnt home b (i + 1)))), (4, .int (nI i)), (0, .ref mo), (1, .int r), (2, .int q)]) hx hb dX4_pour_55 rfl hl (by decide) rfl (fun ls hl => ?_)
            rw [pof_y c2] at hP hD
            refine lv_iinc (v := nI (i + 1)) (lv' := [(4, .int (nI (i + 1))), (3, .int (nI (hcnt home b (i + 1)))), (0, .ref mo), (1, .int r), (2, .int q)]) hx hb dX4_pour_56 hl (k := 1) rfl (by rw [show Int32.ofInt 1 = nI 1 from by decide]; exact nI_add (i) 1) (by decide) rfl (fun ls hl => ?_)
            refine lv_goto (tgt := 16) hx hb dX4_pour_59 (by decide) ?_
            exact ih (i + 1) _ _ _ (by omega) (by omega) hP hD hS (lv_sub hl [0, 1, 2, 3, 4] rfl)
    exact loop (puts + 1) 0 _ _ ls (by omega) (Nat.zero_le _) (by rw [pof_0]; exact hP) (by rw [pof_0]; exact hD) hS (lv_sub hl [0, 1, 2, 3, 4] rfl)
  · refine lv_iconst (v := (-1)) hx hb dX4_pour_9 (by decide) ?_
    exact W.iret (v := (-1)) hx hb hr (fun t ht hW => ⟨⟨-1, (ws0, N, C), rfl, ⟨fun _ => ⟨rfl, rfl⟩, fun z => absurd hab z⟩, by dsimp only; rw [ht]; exact hMk0⟩, hS.F ht⟩) hS.2.2 dX4_pour_10
set_option maxHeartbeats 4000000 in
set_option maxRecDepth 100000 in
/-- put(r, key) -/
theorem m_mPut (l : Launch) (G : gG) (H0 : Heap) (mo : Nat) (ws : va_W) (puts : Nat) (N : Nat → Nat) (C : Nat → Int32 → Nat) (hMk : Mk G (fun _ => True) H0 mo ws puts N C) (r key : Int32) : Met l yX4_put (ws_ yX4_put cX4_put 3 (some .boolean)) ({ frames := 0, cells := 0, slots := 0, locals := 0 }) (PcG G [.ref mo, .int r, .int key] H0 (va_A ws H0.size)) (va_Qi (fun (y : Int32) (u : va_W × Nat × (Nat → Nat) × (Nat → Int32 → Nat)) => (puts < 64 → y = 1 ∧ u.2 = (puts + 1, va_up N (r4 r) (N (r4 r) + 1), cAdd C (r4 r) (key &&& 65535))) ∧ (¬ puts < 64 → y = 0 ∧ u.2 = (puts, N, C))) (fun u t => Mk G (va_A ws H0.size) t.heap mo u.1 u.2.1 u.2.2.1 u.2.2.2) (va_A ws H0.size)) 0 0 (va_A ws H0.size) := by
  refine Met.ofW (cc := cX4_put) (maxL := 3) (ret := (some .boolean)) (by decide) rfl ?_
  intro p e s m args below meth c s₁ B hml hv
  obtain ⟨rfl, rfl, hG⟩ := hv
  have hx := B.exec
  have hb := B.bytes
  have hr := B.returns
  have hts := atoms_spec (ws := ws_ yX4_put cX4_put 3 (some .boolean)) B.pre
  have hts : ∀ w ∈ lw_all, w.before _ s = true := fun w h => hts w (List.mem_cons_of_mem _ h)
  have hown : s.vm.findClass RX4 = some m.cls := findClass_of_methodNamed B.named
  have hlocks := B.notSynchronized
  have hK := hG.K
  have hMk := hMk.wk (hMk.D.self (sz := s.heap.size))
  generalize hAe : va_A ws s.heap.size = A at hMk hG ⊢
  have hA : ∀ q : Nat, s.heap.size ≤ q → A q := fun q h => by rw [← hAe]; exact Or.inr h
  have hS : va_S A s.heap s.heap [] := va_S.rf
  have hl := lv_entry ([.ref mo, .int r, .int key]) (n := 3) (Nat.le_of_ble_eq_true rfl)
  rw [lg_entry_eq]
  generalize (lg_sl ([.ref mo, .int r, .int key]) ++ List.replicate (3 - (lg_sl ([.ref mo, .int r, .int key])).length) Slot.unset).toArray = ls at hl ⊢
  have hl : lv_has ls 3 [(0, .ref mo), (1, .int r), (2, .int key)] := hl
  have hra := r4_and r
  have hj4 := r4_lt r
  generalize hje : r4 r = j at hra hj4 ⊢
  obtain ⟨ws0, hMk0⟩ : ∃ w9 : va_W, Mk G A s.heap mo w9 puts N C := ⟨_, hMk⟩
  obtain ⟨ka, hm, keys, home, rfl, hp64, hN, hC, hP, hD⟩ := hMk
  refine lv_aload_n hx hb dX4_put_0 rfl (lv_at hl 0 rfl) ?_
  refine va_get (D := G.1) (ci := 2) (v := .int (nI puts)) (C := RX4) (T := TX4) (N := 3) hx hb hts in_X4 hown hK hP 0 rfl rfl 2 (by decide) (hts _ q410) (fun _ h9 => h9) rfl dX4_put_1 ?_
  refine lv_bipush (v := nI 64) hx hb dX4_put_4 (by decide) ?_
  refine bn_ne (tgt := 11) hx hb dX4_put_6 (by decide) (by omega) (by omega) (fun c1 => ?_) (fun c1 => ?_)
  · refine lv_aload_n hx hb dX4_put_11 rfl (lv_at hl 0 rfl) ?_
    refine va_get (D := G.1) (ci := 2) (v := .ref ka) (C := RX4) (T := TX4) (N := 3) hx hb hts in_X4 hown hK hP 0 rfl rfl 0 (by decide) (hts _ q408) (fun _ h9 => h9) rfl dX4_put_12 ?_
    refine lv_aload_n hx hb dX4_put_15 rfl (lv_at hl 0 rfl) ?_
    refine va_get (D := G.1) (ci := 2) (v := .int (nI puts)) (C := RX4) (T := TX4) (N := 3) hx hb hts in_X4 hown hK hP 0 rfl rfl 2 (by decide) (hts _ q410) (fun _ h9 => h9) rfl dX4_put_16 ?_
    refine lv_iload_n hx hb dX4_put_19 rfl (lv_at hl 2 rfl) ?_
    refine lv_ldc (v := 65535) hx hb hown (hts _ q423) dX4_put_20 ?_
    refine lv_iand hx hb dX4_put_22 ?_
    refine ist hx hb hK hP hD hS 1 3 rfl rfl (by omega) (by decide) dX4_put_23 (fun H95 locs hP hD hS => ?_)
    have hP : va_P G.1 vwCl [(mo, .inr (2, [.ref ka, .ref hm, .int (nI puts)])), (ka, .inl (G.2.1 3, iA (64) (upd (keys) (puts) ((key &&& 65535))))), (hm, .inl (G.2.1 3, iA (64) (home)))] H95 := hP
    have hD : va_D A [(mo, .inr (2, [.ref ka, .ref hm, .int (nI puts)])), (ka, .inl (G.2.1 3, iA (64) (upd (keys) (puts) ((key &&& 65535))))), (hm, .inl (G.2.1 3, iA (64) (home)))] := hD
    refine lv_aload_n hx hb dX4_put_24 rfl (lv_at hl 0 rfl) ?_
    refine va_get (D := G.1) (ci := 2) (v := .ref hm) (C := RX4) (T := TX4) (N := 3) hx hb hts in_X4 hown hK hP 0 rfl rfl 1 (by decide) (hts _ q409) (fun _ h9 => h9) rfl dX4_put_25 ?_
    refine lv_aload_n hx hb dX4_put_28 rfl (lv_at hl 0 rfl) ?_
    refine va_get (D := G.1) (ci := 2) (v := .int (nI puts)) (C := RX4) (T := TX4) (N := 3) hx hb hts in_X4 hown hK hP 0 rfl rfl 2 (by decide) (hts _ q410) (fun _ h9 => h9) rfl dX4_put_29 ?_
    refine lv_iconst (v := nI 1) hx hb dX4_put_32 (by decide) ?_
    refine lv_iload_n hx hb dX4_put_33 rfl (lv_at hl 1 rfl) ?_
    refine lv_iconst (v := nI 3) hx hb dX4_put_34 (by decide) ?_
    refine lv_iand hx hb dX4_put_35 ?_
    refine lv_tn (nI (j)) (hra) ?_
    refine lv_iadd hx hb dX4_put_36 ?_
    refine lv_tn (nI (1 + j)) (nI_add _ _) ?_
    refine ist hx hb hK hP hD hS 2 3 rfl rfl (by omega) (by decide) dX4_put_37 (fun H96 locs hP hD hS => ?_)
    have hP : va_P G.1 vwCl [(mo, .inr (2, [.ref ka, .ref hm, .int (nI puts)])), (ka, .inl (G.2.1 3, iA (64) (upd (keys) (puts) ((key &&& 65535))))), (hm, .inl (G.2.1 3, iA (64) (upd (home) (puts) (nI (1 + j)))))] H96 := hP
    have hD : va_D A [(mo, .inr (2, [.ref ka, .ref hm, .int (nI puts)])), (ka, .inl (G.2.1 3, iA (64) (upd (keys) (puts) ((key &&& 65535))))), (hm, .inl (G.2.1 3, iA (64) (upd (home) (puts) (nI (1 + j)))))] := hD
    refine lv_aload_n hx hb dX4_put_38 rfl (lv_at hl 0 rfl) ?_
    refine lv_aload_n hx hb dX4_put_39 rfl (lv_at hl 0 rfl) ?_
    refine va_get (D := G.1) (ci := 2) (v := .int (nI puts)) (C := RX4) (T := TX4) (N := 3) hx hb hts in_X4 hown hK hP 0 rfl rfl 2 (by decide) (hts _ q410) (fun _ h9 => h9) rfl dX4_put_40 ?_
    refine lv_iconst (v := nI 1) hx hb dX4_put_43 (by decide) ?_
    refine lv_iadd hx hb dX4_put_44 ?_
    refine lv_tn (nI (puts + 1)) (nI_add _ _) ?_
    refine va_put (D := G.1) (ci := 2) (v := .int (nI (puts + 1))) (ty := .int) (C := RX4) (T := TX4) (N := 3) hx hb hts in_X4 tyX4 tyX4_ok nmX4 hown hK hP hD hS 0 rfl rfl 2 (by decide) (hts _ q410) (fun _ h9 => h9) rfl (by decide +kernel) rfl rfl (Nat.le_of_ble_eq_true rfl) dX4_put_45 (fun H97 locs hP hD hS => ?_)
    have hP : va_P G.1 vwCl [(mo, .inr (2, [.ref ka, .ref hm, .int (nI (puts + 1))])), (ka, .inl (G.2.1 3, iA (64) (upd (keys) (puts) ((key &&& 65535))))), (hm, .inl (G.2.1 3, iA (64) (upd (home) (puts) (nI (1 + j)))))] H97 := hP
    have hD : va_D A [(mo, .inr (2, [.ref ka, .ref hm, .int (nI (puts + 1))])), (ka, .inl (G.2.1 3, iA (64) (upd (keys) (puts) ((key &&& 65535))))), (hm, .inl (G.2.1 3, iA (64) (upd (home) (puts) (nI (1 + j)))))] := hD
    obtain ⟨w9, hfin⟩ : ∃ w9 : va_W, Mk G A H97 mo w9 (puts + 1) (va_up N j (N j + 1)) (cAdd C j (key &&& 65535)) := by
      refine ⟨_, ka, hm, upd keys puts (key &&& 65535), upd home puts (nI (1 + j)), rfl, by omega, fun i hi => ?_, fun i hi z => ?_, hP, hD⟩
      · rw [hcnt_put hi hj4]
        by_cases hij : i = j
        · rw [hij, va_up_self, va_up_self, hN j hj4]
        · rw [va_up_ne _ _ hij, va_up_ne _ _ hij, hN i hi]
      · rw [mcnt_put hi hj4]
        unfold cAdd
        rw [hC i hi z]
    refine lv_iconst (v := nI 1) hx hb dX4_put_48 (by decide) ?_
    exact W.zret (v := nI 1) hx hb hr rfl (fun t ht hW => ⟨⟨nI 1, (w9, puts + 1, va_up N j (N j + 1), cAdd C j (key &&& 65535)), rfl, ⟨fun _ => ⟨rfl, rfl⟩, fun z => absurd (by omega) z⟩, by dsimp only; rw [ht]; exact hfin⟩, hS.F ht⟩) hS.2.2 dX4_put_49
  · refine lv_iconst (v := nI 0) hx hb dX4_put_9 (by decide) ?_
    exact W.zret (v := nI 0) hx hb hr rfl (fun t ht hW => ⟨⟨nI 0, (ws0, puts, N, C), rfl, ⟨fun z => absurd z (by omega), fun _ => ⟨rfl, rfl⟩⟩, by dsimp only; rw [ht]; exact hMk0⟩, hS.F ht⟩) hS.2.2 dX4_put_10
set_option maxHeartbeats 4000000 in
set_option maxRecDepth 100000 in
/-- four(r, ..) -/
theorem m_mFour (l : Launch) (G : gG) (H0 : Heap) (mo : Nat) (ws : va_W) (puts : Nat) (N : Nat → Nat) (C : Nat → Int32 → Nat) (hMk : Mk G (fun _ => True) H0 mo ws puts N C) (r e0 e1 e2 e3 : Int32) : Met l yX4_four (ws_ yX4_four cX4_four 6 (some .boolean)) ({ frames := 1, cells := 0, slots := 0, locals := 22 }) (PcG G [.ref mo, .int r, .int e0, .int e1, .int e2, .int e3] H0 (va_A ws H0.size)) (va_Qi (fun (y : Int32) (u : va_W × Nat × (Nat → Nat) × (Nat → Int32 → Nat)) => (puts ≤ 60 → y = 1 ∧ u.2 = (puts + 4, va_up N (r4 r) 4, cFour C (r4 r) (e0 &&& 65535) (e1 &&& 65535) (e2 &&& 65535) (e3 &&& 65535))) ∧ (¬ puts ≤ 60 → y = 0 ∧ u.2 = (puts, N, C))) (fun u t => Mk G (va_A ws H0.size) t.heap mo u.1 u.2.1 u.2.2.1 u.2.2.2) (va_A ws H0.size)) 0 0 (va_A ws H0.size) := by
  refine Met.ofW (cc := cX4_four) (maxL := 6) (ret := (some .boolean)) (by decide) rfl ?_
  intro p e s m args below meth c s₁ B hml hv
  obtain ⟨rfl, rfl, hG⟩ := hv
  have hx := B.exec
  have hb := B.bytes
  have hr := B.returns
  have hts := atoms_spec (ws := ws_ yX4_four cX4_four 6 (some .boolean)) B.pre
  have hts : ∀ w ∈ lw_all, w.before _ s = true := fun w h => hts w (List.mem_cons_of_mem _ h)
  have hown : s.vm.findClass RX4 = some m.cls := findClass_of_methodNamed B.named
  have hlocks := B.notSynchronized
  have hK := hG.K
  have hMk := hMk.wk (hMk.D.self (sz := s.heap.size))
  generalize hAe : va_A ws s.heap.size = A at hMk hG ⊢
  have hA : ∀ q : Nat, s.heap.size ≤ q → A q := fun q h => by rw [← hAe]; exact Or.inr h
  have hS : va_S A s.heap s.heap [] := va_S.rf
  have hl := lv_entry ([.ref mo, .int r, .int e0, .int e1, .int e2, .int e3]) (n := 6) (Nat.le_of_ble_eq_true rfl)
  rw [lg_entry_eq]
  generalize (lg_sl ([.ref mo, .int r, .int e0, .int e1, .int e2, .int e3]) ++ List.replicate (6 - (lg_sl ([.ref mo, .int r, .int e0, .int e1, .int e2, .int e3])).length) Slot.unset).toArray = ls at hl ⊢
  have hl : lv_has ls 6 [(0, .ref mo), (1, .int r), (2, .int e0), (3, .int e1), (4, .int e2), (5, .int e3)] := hl
  have hp64 : puts ≤ 64 := by
    obtain ⟨ka, hm, keys, home, -, h1, -⟩ := id hMk
    exact h1
  obtain ⟨ka, hm, keys, home, rfl, hrest⟩ := id hMk
  have hP := hMk.P
  refine lv_aload_n hx hb dX4_four_0 rfl (lv_at hl 0 rfl) ?_
  refine va_get (D := G.1) (ci := 2) (v := .int (nI puts)) (C := RX4) (T := TX4) (N := 3) hx hb hts in_X4 hown hK hP 0 rfl rfl 2 (by decide) (hts _ q410) (fun _ h9 => h9) rfl dX4_four_1 ?_
  refine lv_iconst (v := nI 4) hx hb dX4_four_4 (by decide) ?_
  refine lv_iadd hx hb dX4_four_5 ?_
  refine lv_tn (nI (puts + 4)) (nI_add _ _) ?_
  refine lv_bipush (v := nI 64) hx hb dX4_four_6 (by decide) ?_
  refine bn_le (tgt := 13) hx hb dX4_four_8 (by decide) (by omega) (by omega) (fun c1 => ?_) (fun c1 => ?_)
  · refine lv_aload_n hx hb dX4_four_13 rfl (lv_at hl 0 rfl) ?_
    refine lv_iload_n hx hb dX4_four_14 rfl (lv_at hl 1 rfl) ?_
    have hFc := freeL hMk.D hS hA
    refine va_callv (va_runV (As := [.int r]) (rest := []) ⟨hx, hb, hml, hown, hts⟩ (m_mClear l G _ mo _ puts N C (hMk.wk (hMk.D.weaken (fun _ _ _ _ => trivial))) r) (cwV 1 hts (lw_V q428 q429 q430 q13 q431) rfl rfl rfl (by decide +kernel) ⟨Nat.le_of_ble_eq_true rfl, Nat.le_of_ble_eq_true rfl⟩) (PcG.v (hMk.recv hK) (hG.sub hS hFc)) rfl rfl hl.1 rfl (lv_room (Nat.le_of_ble_eq_true rfl)) dX4_four_15 ⟨Nat.le_of_ble_eq_true rfl, Nat.le_of_ble_eq_true rfl⟩) hS (fun q _ h => hFc q h) hFc (fun u0 t H98 locs ht hvm hw hB hz1 hk1 hS => ?_)
    try dsimp only at hB
    try dsimp only at hw
    rw [ht] at hB
    have hMk := hB.wk (hB.D.weaken (fun _ q _ h => hFc q.1 h))
    refine lv_aload_n hx hb dX4_four_18 rfl (lv_at hl 0 rfl) ?_
    refine lv_iload_n hx hb dX4_four_19 rfl (lv_at hl 1 rfl) ?_
    refine lv_iload_n hx hb dX4_four_20 rfl (lv_at hl 2 rfl) ?_
    have hFc := freeL hMk.D hS hA
    refine va_calli (va_runV (As := [.int r, .int e0]) (rest := []) ⟨hx, hb, hml, hown, hts⟩ (m_mPut l G _ mo _ _ _ _ (hMk.wk (hMk.D.weaken (fun _ _ _ _ => trivial))) r e0) (cwV 2 hts (lw_V q432 q420 q421 q13 q422) rfl rfl rfl (by decide +kernel) ⟨Nat.le_of_ble_eq_true rfl, Nat.le_of_ble_eq_true rfl⟩) (PcG.v (hMk.recv hK) (hG.sub hS hFc)) rfl rfl hl.1 rfl (lv_room (Nat.le_of_ble_eq_true rfl)) dX4_four_21 ⟨Nat.le_of_ble_eq_true rfl, Nat.le_of_ble_eq_true rfl⟩) hS (fun q _ h => hFc q h) hFc (fun y9 u1 t H99 locs ht hvm hw hB hz1 hk1 hS => ?_)
    try dsimp only at hB
    try dsimp only at hw
    rw [ht] at hB
    have hB := hB.wk (hB.D.weaken (fun _ q _ h => hFc q.1 h))
    rw [(hw.1 (by omega)).2] at hB
    have hMk := hB
    try dsimp only at hMk
    refine lv_pop hx hb dX4_four_24 rfl ?_
    refine lv_aload_n hx hb dX4_four_25 rfl (lv_at hl 0 rfl) ?_
    refine lv_iload_n hx hb dX4_four_26 rfl (lv_at hl 1 rfl) ?_
    refine lv_iload_n hx hb dX4_four_27 rfl (lv_at hl 3 rfl) ?_
    have hFc := freeL hMk.D hS hA
    refine va_calli (va_runV (As := [.int r, .int e1]) (rest := []) ⟨hx, hb, hml, hown, hts⟩ (m_mPut l G _ mo _ _ _ _ (hMk.wk (hMk.D.weaken (fun _ _ _ _ => trivial))) r e1) (cwV 2 hts (lw_V q432 q420 q421 q13 q422) rfl rfl rfl (by decide +kernel) ⟨Nat.le_of_ble_eq_true rfl, Nat.le_of_ble_eq_true rfl⟩) (PcG.v (hMk.recv hK) (hG.sub hS hFc)) rfl rfl hl.1 rfl (lv_room (Nat.le_of_ble_eq_true rfl)) dX4_four_28 ⟨Nat.le_of_ble_eq_true rfl, Nat.le_of_ble_eq_true rfl⟩) hS (fun q _ h => hFc q h) hFc (fun y9 u2 t H100 locs ht hvm hw hB hz1 hk1 hS => ?_)
    try dsimp only at hB
    try dsimp only at hw
    rw [ht] at hB
    have hB := hB.wk (hB.D.weaken (fun _ q _ h => hFc q.1 h))
    rw [(hw.1 (by omega)).2] at hB
    have hMk := hB
    try dsimp only at hMk
    refine lv_pop hx hb dX4_four_31 rfl ?_
    refine lv_aload_n hx hb dX4_four_32 rfl (lv_at hl 0 rfl) ?_
    refine lv_iload_n hx hb dX4_four_33 rfl (lv_at hl 1 rfl) ?_
    refine lv_iload hx hb dX4_four_34 (lv_at hl 4 rfl) ?_
    have hFc := freeL hMk.D hS hA
    refine va_calli (va_runV (As := [.int r, .int e2]) (rest := []) ⟨hx, hb, hml, hown, hts⟩ (m_mPut l G _ mo _ _ _ _ (hMk.wk (hMk.D.weaken (fun _ _ _ _ => trivial))) r e2) (cwV 2 hts (lw_V q432 q420 q421 q13 q422) rfl rfl rfl (by decide +kernel) ⟨Nat.le_of_ble_eq_true rfl, Nat.le_of_ble_eq_true rfl⟩) (PcG.v (hMk.recv hK) (hG.sub hS hFc)) rfl rfl hl.1 rfl (lv_room (Nat.le_of_ble_eq_true rfl)) dX4_four_36 ⟨Nat.le_of_ble_eq_true rfl, Nat.le_of_ble_eq_true rfl⟩) hS (fun q _ h => hFc q h) hFc (fun y9 u3 t H101 locs ht hvm hw hB hz1 hk1 hS => ?_)
    try dsimp only at hB
    try dsimp only at hw
    rw [ht] at hB
    have hB := hB.wk (hB.D.weaken (fun _ q _ h => hFc q.1 h))
    rw [(hw.1 (by omega)).2] at hB
    have hMk := hB
    try dsimp only at hMk
    refine lv_pop hx hb dX4_four_39 rfl ?_
    refine lv_aload_n hx hb dX4_four_40 rfl (lv_at hl 0 rfl) ?_
    refine lv_iload_n hx hb dX4_four_41 rfl (lv_at hl 1 rfl) ?_
    refine lv_iload hx hb dX4_four_42 (lv_at hl 5 rfl) ?_
    have hFc := freeL hMk.D hS hA
    refine va_calli (va_runV (As := [.int r, .int e3]) (rest := []) ⟨hx, hb, hml, hown, hts⟩ (m_mPut l G _ mo _ _ _ _ (hMk.wk (hMk.D.weaken (fun _ _ _ _ => trivial))) r e3) (cwV 2 hts (lw_V q432 q420 q421 q13 q422) rfl rfl rfl (by decide +kernel) ⟨Nat.le_of_ble_eq_true rfl, Nat.le_of_ble_eq_true rfl⟩) (PcG.v (hMk.recv hK) (hG.sub hS hFc)) rfl rfl hl.1 rfl (lv_room (Nat.le_of_ble_eq_true rfl)) dX4_four_44 ⟨Nat.le_of_ble_eq_true rfl, Nat.le_of_ble_eq_true rfl⟩) hS (fun q _ h => hFc q h) hFc (fun y9 u4 t H102 locs ht hvm hw hB hz1 hk1 hS => ?_)
    try dsimp only at hB
    try dsimp only at hw
    rw [ht] at hB
    have hB := hB.wk (hB.D.weaken (fun _ q _ h => hFc q.1 h))
    rw [(hw.1 (by omega)).2] at hB
    have hMk := hB
    try dsimp only at hMk
    refine lv_pop hx hb dX4_four_47 rfl ?_
    refine lv_iconst (v := nI 1) hx hb dX4_four_48 (by decide) ?_
    have hj4 := r4_lt r
    generalize r4 r = j at hMk hj4 ⊢
    have hMk2 := hMk.congr (N' := va_up N j 4) (C' := cFour C j (e0 &&& 65535) (e1 &&& 65535) (e2 &&& 65535) (e3 &&& 65535)) (fun i hi => by
      by_cases hij : i = j
      · rw [hij]; simp only [va_up_self]
      · simp only [va_up_ne _ _ hij]) (fun i hi z => by
      unfold cFour cAdd cClr
      by_cases hij : i = j
      · simp only [hij, true_and, if_true]
        omega
      · simp only [if_neg hij, hij, false_and, if_false, Nat.add_zero])
    exact W.zret (v := nI 1) hx hb hr rfl (fun t ht hW => ⟨⟨nI 1, (_, puts + 4, va_up N j 4, cFour C j (e0 &&& 65535) (e1 &&& 65535) (e2 &&& 65535) (e3 &&& 65535)), rfl, ⟨fun _ => ⟨rfl, rfl⟩, fun z => absurd (by omega) z⟩, by dsimp only; rw [ht]; exact hMk2⟩, hS.F ht⟩) hS.2.2 dX4_four_49
  · refine lv_iconst (v := nI 0) hx hb dX4_four_11 (by decide) ?_
    exact W.zret (v := nI 0) hx hb hr rfl (fun t ht hW => ⟨⟨nI 0, (_, puts, N, C), rfl, ⟨fun z => absurd z (by omega), fun _ => ⟨rfl, rfl⟩⟩, by dsimp only; rw [ht]; exact hMk⟩, hS.F ht⟩) hS.2.2 dX4_four_12
set_option maxHeartbeats 4000000 in
set_option maxRecDepth 100000 in
/-- the model -/
theorem m_mInit (l : Launch) (G : gG) (H0 : Heap) (mo : Nat) (hP : va_P G.1 vwCl [(mo, .inr (2, [.null, .null, .int (nI 0)]))] H0) (hD : va_D (fun _ => True) [(mo, .inr (2, [.null, .null, .int (nI 0)]))]) : Met l yX4_init (ws_ yX4_init cX4_init 1 none) ({ frames := 1, cells := 2, slots := 128, locals := 12 }) (PcG G [.ref mo] H0 (va_A [(mo, .inr (2, [.null, .null, .int (nI 0)]))] H0.size)) (va_Qv (fun _ : va_W => True) (fun u t => Mk G (va_A [(mo, .inr (2, [.null, .null, .int (nI 0)]))] H0.size) t.heap mo u 0 (fun _ => 0) (fun _ _ => 0)) (va_A [(mo, .inr (2, [.null, .null, .int (nI 0)]))] H0.size)) 2 128 (va_A [(mo, .inr (2, [.null, .null, .int (nI 0)]))] H0.size) := by
  refine Met.ofW (cc := cX4_init) (maxL := 1) (ret := none) (by decide) rfl ?_
  intro p e s m args below meth c s₁ B hml hv
  obtain ⟨rfl, rfl, hG⟩ := hv
  have hx := B.exec
  have hb := B.bytes
  have hr := B.returns
  have hts := atoms_spec (ws := ws_ yX4_init cX4_init 1 none) B.pre
  have hts : ∀ w ∈ lw_all, w.before _ s = true := fun w h => hts w (List.mem_cons_of_mem _ h)
  have hown : s.vm.findClass RX4 = some m.cls := findClass_of_methodNamed B.named
  have hlocks := B.notSynchronized
  have hin : meth.name = "<init>" := (name_of_methodNamed B.named B.method).1
  have hK := hG.K
  have hbk : ∀ (H : Heap) (locs : List Loc), va_S (va_A [(mo, .inr (2, [.null, .null, .int (nI 0)]))] s.heap.size) s.heap H locs → bK G s.heap H := fun H locs h => bK.of hK hP (nI_o (by decide) nI_nil) h.2.1
  have hD := hD.self (sz := s.heap.size)
  generalize hAe : va_A [(mo, .inr (2, [.null, .null, .int (nI 0)]))] s.heap.size = A at hD hG hbk ⊢
  have hA : ∀ q : Nat, s.heap.size ≤ q → A q := fun q h => by rw [← hAe]; exact Or.inr h
  have hS : va_S A s.heap s.heap [] := va_S.rf
  have hl := lv_entry ([.ref mo]) (n := 1) (Nat.le_of_ble_eq_true rfl)
  rw [lg_entry_eq]
  generalize (lg_sl ([.ref mo]) ++ List.replicate (1 - (lg_sl ([.ref mo])).length) Slot.unset).toArray = ls at hl ⊢
  have hl : lv_has ls 1 [(0, .ref mo)] := hl
  refine lv_aload_n hx hb dX4_init_0 rfl (lv_at hl 0 rfl) ?_
  refine W.objInit hx hb hown (hts _ q407) (hts _ q26) (hts _ q27) rfl (by rw [hml]; exact hl.1) rfl dX4_init_1 (Nat.le_of_ble_eq_true rfl) (Nat.le_of_ble_eq_true rfl) ?_
  refine W.eq (g2 := F0 m 4 ls []) rfl ?_
  refine lv_aload_n hx hb dX4_init_4 rfl (lv_at hl 0 rfl) ?_
  refine lv_bipush (v := nI 64) hx hb dX4_init_5 (by decide) ?_
  refine nwi hx hb (hts _ q418) hK 3 rfl hP hD hS hA (by decide) (Nat.le_of_ble_eq_true rfl) (Nat.le_of_ble_eq_true rfl) dX4_init_7 (fun ka H103 hP hD hS => ?_)
  have hP : va_P G.1 vwCl [(mo, .inr (2, [.null, .null, .int (nI 0)])), (ka, .inl (G.2.1 3, iA (64) (fun _ => 0)))] H103 := hP
  have hD : va_D A [(mo, .inr (2, [.null, .null, .int (nI 0)])), (ka, .inl (G.2.1 3, iA (64) (fun _ => 0)))] := hD
  refine va_putF (D := G.1) (ci := 2) (v := .ref ka) (ty := .array .int) (C := RX4) (T := TX4) (N := 3) hx hb hts in_X4 tyX4 tyX4_ok nmX4 hown hK hP hD hS 0 rfl rfl 0 (by decide) (hts _ q408) (fun _ h9 => h9) rfl hin rfl (by decide +kernel) rfl rfl (Nat.le_of_ble_eq_true rfl) dX4_init_9 (fun H104 locs hP hD hS => ?_)
  have hP : va_P G.1 vwCl [(mo, .inr (2, [.ref ka, .null, .int (nI 0)])), (ka, .inl (G.2.1 3, iA (64) (fun _ => 0)))] H104 := hP
  have hD : va_D A [(mo, .inr (2, [.ref ka, .null, .int (nI 0)])), (ka, .inl (G.2.1 3, iA (64) (fun _ => 0)))] := hD
  refine lv_aload_n hx hb dX4_init_12 rfl (lv_at hl 0 rfl) ?_
  refine lv_bipush (v := nI 64) hx hb dX4_init_13 (by decide) ?_
  refine nwi hx hb (hts _ q418) hK 3 rfl hP hD hS hA (by decide) (Nat.le_of_ble_eq_true rfl) (Nat.le_of_ble_eq_true rfl) dX4_init_15 (fun hm H105 hP hD hS => ?_)
  have hP : va_P G.1 vwCl [(mo, .inr (2, [.ref ka, .null, .int (nI 0)])), (ka, .inl (G.2.1 3, iA (64) (fun _ => 0))), (hm, .inl (G.2.1 3, iA (64) (fun _ => 0)))] H105 := hP
  have hD : va_D A [(mo, .inr (2, [.ref ka, .null, .int (nI 0)])), (ka, .inl (G.2.1 3, iA (64) (fun _ => 0))), (hm, .inl (G.2.1 3, iA (64) (fun _ => 0)))] := hD
  refine va_putF (D := G.1) (ci := 2) (v := .ref hm) (ty := .array .int) (C := RX4) (T := TX4) (N := 3) hx hb hts in_X4 tyX4 tyX4_ok nmX4 hown hK hP hD hS 0 rfl rfl 1 (by decide) (hts _ q409) (fun _ h9 => h9) rfl hin rfl (by decide +kernel) rfl rfl (Nat.le_of_ble_eq_true rfl) dX4_init_17 (fun H106 locs hP hD hS => ?_)
  have hP : va_P G.1 vwCl [(mo, .inr (2, [.ref ka, .ref hm, .int (nI 0)])), (ka, .inl (G.2.1 3, iA (64) (fun _ => 0))), (hm, .inl (G.2.1 3, iA (64) (fun _ => 0)))] H106 := hP
  have hD : va_D A [(mo, .inr (2, [.ref ka, .ref hm, .int (nI 0)])), (ka, .inl (G.2.1 3, iA (64) (fun _ => 0))), (hm, .inl (G.2.1 3, iA (64) (fun _ => 0)))] := hD
  refine W.widen (k := 2) (n := 128) (by decide) (by decide) ?_
  obtain ⟨w9, hfin⟩ : ∃ w9 : va_W, Mk G A H106 mo w9 0 (fun _ => 0) (fun _ _ => 0) := ⟨_, ka, hm, fun _ => 0, fun _ => 0, rfl, by decide, fun i hi => rfl, fun i hi z => rfl, hP, hD⟩
  exact W.vret hx hb hr (fun t ht hW => ⟨⟨w9, rfl, trivial, by dsimp only; rw [ht]; exact hfin⟩, hS.F ht⟩) hS.2.2 dX4_init_20
end
section
/-! THE START: what the Statement gives makes G -/
set_option maxRecDepth 100000
def adr (tc dn : Nat) (ad : Nat → Nat) : Nat → Nat := fun i => match i with
  | 0 => tc
  | 1 => dn
  | k + 2 => ad k
theorem aoK {C : String} {s : State} (h : va_AO C s) : ∃ cA : ClassId, ArrOfT s cA (.object C) ∧ va_RA s cA (.object C) := by
  obtain ⟨comp, c, k, h1, h2, h3, h4, h5⟩ := Cond.arrayOver_spec h
  exact ⟨c, fun n z => ⟨fun q h9 => (by cases h9), k, h3, comp, h4⟩, k, comp, h3, h4, h1, h5⟩
theorem aiK {args : Array Value} {s : State} (h : (Cond.arrayClass .int).before args s = true) : ∃ cA : ClassId, ArrOfT s cA .int ∧ va_RA s cA .int := by
  obtain ⟨c, k, comp, h1, h2, h3⟩ := Cond.arrayClass_spec h
  exact ⟨c, fun n z => ⟨fun q h9 => (by cases h9), k, h2, comp, h3⟩, h1⟩
/-- the Integer cache: 256 boxes that nobody holds or awaits -/
theorem cacheOf {args : Array Value} {s : State} {st : Term} (hc : st.closed = true) (hlen : (Term.length st).eval args s none [] s = some (.int (Int32.ofNat 256)))
    (hall : (Cond.all st (.and (.and (.exactly (.elem st (.index 0)) "java/lang/Integer") (.untouched (.elem st (.index 0)))) (.eq (.field (.elem st (.index 0)) "java/lang/Integer" "value" "I") (.sub (.index 0) (.int 128))))).before args s = true) :
    ∃ ad : Nat → Nat, ∀ k : Nat, k < 256 → (Term.elem st (.int (Int32.ofNat k))).eval args s none [] s = some (.ref (ad k)) ∧ ∃ cell : Cell, s.heap[ad k]? = some cell ∧ cell.vm = .none ∧ s.vm.findClass "java/lang/Integer" = some cell.cls ∧ ∃ cf kf fi f, s.fieldFound? "java/lang/Integer" "value" "I" = some (cf, kf, fi, f) ∧ cell.slots[f.slot]? = some (.int (vb_c k)) := by
  obtain ⟨b, cell, ht, hat, hv⟩ := Term.length_spec hlen
  have hsz : ∀ k : Nat, k < 256 → k < cell.slots.size := by
    intro k hk
    apply Nat.not_le.mp
    intro hle
    have e : Int32.ofNat cell.slots.size = Int32.ofNat 256 := (Value.int.inj hv).symm
    have h1 : (Int32.ofNat cell.slots.size).toNatClampNeg = cell.slots.size := Int32.toNatClampNeg_ofNat_of_lt (by omega)
    have h2 : (Int32.ofNat 256).toNatClampNeg = 256 := Int32.toNatClampNeg_ofNat_of_lt (by omega)
    rw [e, h2] at h1
    omega
  have hall' := Cond.all_elim ht hat (by simpa [Cond.before, Cond.holds] using hall)
  have h0 : ∀ k : Nat, ∃ a : Nat, k < 256 → (Term.elem st (.int (Int32.ofNat k))).eval args s none [] s = some (.ref a) ∧ ∃ cell : Cell, s.heap[a]? = some cell ∧ cell.vm = .none ∧ s.vm.findClass "java/lang/Integer" = some cell.cls ∧ ∃ cf kf fi f, s.fieldFound? "java/lang/Integer" "value" "I" = some (cf, kf, fi, f) ∧ cell.slots[f.slot]? = some (.int (vb_c k)) := by
    intro k
    by_cases hk : k < 256
    · obtain ⟨hEU, hF⟩ := va_andE (hall' k (hsz k hk))
      obtain ⟨hE, hU⟩ := va_andE hEU
      obtain ⟨a, c, cA, kA, q1, q2, q3, q4, q5, q6, -⟩ := Cond.exactly_spec (args := args) (first := s) (o := none) (s := s) (idx := [k]) (t := .elem st (.index 0)) (cls := "java/lang/Integer") (by simp [Cond.holds, hE])
      obtain ⟨a', cU, u1, u2, -, -, u5⟩ := Cond.untouched_spec (args := args) (first := s) (o := none) (s := s) (idx := [k]) (t := .elem st (.index 0)) (by simp [Cond.holds, hU])
      cases q1.symm.trans u1
      cases q3.symm.trans u2
      have hfv := va_eqI hF (v := .int (vb_c k)) (by simp [Term.eval, vb_c])
      refine ⟨a, fun _ => ⟨?_, cA, q3, u5, by rw [q6]; exact q2, ?_⟩⟩
      · rw [← q1]
        simp only [Term.eval, Term.eval_closed none [k] st s hc]
        rfl
      · cases hfo : s.fieldFound? "java/lang/Integer" "value" "I" with
        | none =>
          rw [va_fe q1] at hfv
          simp [State.fieldOf?, State.fieldNamed?, hfo] at hfv
        | some w =>
          obtain ⟨cf, kf, fi, f⟩ := w
          obtain ⟨g1, cell2, g2, g3, -, -, g6⟩ := Term.field_spec hfo q1 hfv
          cases q3.symm.trans g2
          exact ⟨cf, kf, fi, f, rfl, g6⟩
    · exact ⟨0, fun h => absurd h hk⟩
  obtain ⟨ad, had⟩ := Classical.axiomOfChoice h0
  exact ⟨ad, fun k hk => had k hk⟩
theorem start_G {s : State} {b : Nat} (hts : ∀ w ∈ lw_tbl, w.before #[Value.ref b] s = true) (hgv : (Jvm.Cond.and given_1 narrow_1).before #[Value.ref b] s = true) : ∃ G : gG, gx G (fun q => s.heap.size ≤ q) s s.heap := by
  have hs := flat_of_before _ hgv
  have hA : ∀ a : Nat, a < s.heap.size → ¬ (fun q => s.heap.size ≤ q) a := fun a h z => absurd h (Nat.not_lt.mpr z)
  obtain ⟨c0, i0, k0⟩ := u_known (C := RX3) (T := TX3) (N := 5) (n := 5) hts (fun w h => lw_all_tbl (in_X3 w h)) (hts _ (lw_all_tbl q36))
  obtain ⟨c1, i1, k1⟩ := u_known (C := RX0) (T := TX0) (N := 2) (n := 2) hts (fun w h => lw_all_tbl (in_X0 w h)) (hts _ (lw_all_tbl q21))
  obtain ⟨c2, i2, k2⟩ := u_known (C := RX4) (T := TX4) (N := 3) (n := 3) hts (fun w h => lw_all_tbl (in_X4 w h)) (hts _ (lw_all_tbl q403))
  obtain ⟨c3, i3, k3⟩ := u_known (C := RJ6) (T := TJ6) (N := 1) (n := 1) hts (fun w h => lw_all_tbl (in_J6 w h)) (hts _ (lw_all_tbl q206))
  obtain ⟨a0, r0⟩ := aoK (va_AO.of (hts _ q148))
  obtain ⟨a1, r1⟩ := aoK (va_AO.of (hts _ q32))
  obtain ⟨a2, r2⟩ := aoK (va_AO.of (hts _ q297))
  obtain ⟨a3, r3⟩ := aiK (hts _ (lw_all_tbl q418))
  have hex : (Cond.exactly (.static "DaryArrayHeapDesk" "DOWN" "LDaryArrayHeapDesk$Down;") "DaryArrayHeapDesk$Down").before #[Value.ref b] s = true := hs _ (by decide +kernel)
  obtain ⟨dn, -, -, -, hdn, -⟩ := Cond.exactly_spec (args := #[Value.ref b]) (first := s) (o := none) (s := s) (idx := []) (t := .static "DaryArrayHeapDesk" "DOWN" "LDaryArrayHeapDesk$Down;") (cls := "DaryArrayHeapDesk$Down") hex
  have hO := va_Oof (A := fun q => s.heap.size ≤ q) hex hdn hA
  have hZd := va_Zof (A := fun q => s.heap.size ≤ q) (hts _ q182) (hts _ (lw_all_tbl q4)) hdn hA
  have hZh := va_Zof (A := fun q => s.heap.size ≤ q) (hts _ q202) (hts _ (lw_all_tbl q16)) (va_eqi (hs (.eq (.static "java/lang/Integer$IntegerCache" "high" "I") (.int 127)) (by decide +kernel))) hA
  have hlen : (Term.length (.static "java/lang/Integer$IntegerCache" "cache" "[Ljava/lang/Integer;")).eval #[Value.ref b] s none [] s = some (.int (Int32.ofNat 256)) := va_eqt (hs (.eq (.length (.static "java/lang/Integer$IntegerCache" "cache" "[Ljava/lang/Integer;")) (.int 256)) (by decide +kernel))
  have harr : (Cond.arrayOf (.static "java/lang/Integer$IntegerCache" "cache" "[Ljava/lang/Integer;") (.object "java/lang/Integer")).before #[Value.ref b] s = true := hs _ (by decide +kernel)
  obtain ⟨ad, had⟩ := cacheOf (st := .static "java/lang/Integer$IntegerCache" "cache" "[Ljava/lang/Integer;") rfl hlen (hs _ (by decide +kernel))
  obtain ⟨tc, htc, hT⟩ := va_Tof (A := fun q => s.heap.size ≤ q) (f := fun k => .ref (ad k)) (by decide) harr hlen (fun j hj => (had j hj).1) hA
  have hZc := va_Zof (A := fun q => s.heap.size ≤ q) (hts _ q204) (hts _ (lw_all_tbl q16)) htc hA
  refine ⟨((f4 c0 c1 c2 c3, f4 i0 i1 i2 i3), f4 a0 a1 a2 a3, adr tc dn ad), ⟨⟨?_, ?_⟩, ?_⟩, hZh, hZc, hT, hZd, hO, fun k hk => ?_⟩
  · intro k q hq
    match k, hq with
    | 0, hq => cases hq; exact k0
    | 1, hq => cases hq; exact k1
    | 2, hq => cases hq; exact k2
    | 3, hq => cases hq; exact k3
    | k + 4, hq => simp at hq
  · intro k q hq
    match k, hq with
    | 0, hq => cases hq; exact r0
    | 1, hq => cases hq; exact r1
    | 2, hq => cases hq; exact r2
    | 3, hq => cases hq; exact r3
    | k + 4, hq => simp at hq
  · exact ⟨va_Nw.of rfl (hts _ q461), va_Nw.of rfl (hts _ q468), va_Nw.of rfl (hts _ q142), va_Nw.of rfl (hts _ q244), va_Nw.of rfl (hts _ q258), va_Nw.of rfl (hts _ q273), va_Nw.of rfl (hts _ q368), va_Nw.of rfl (hts _ q372), va_AO.of (hts _ q148), va_AO.of (hts _ q32), va_AO.of (hts _ q297), va_Fw.of (hts _ q280) (hts _ q279) (hts _ q285) (hts _ q283) (hts _ q281)⟩
  · obtain ⟨-, cell, h1, h2, h3, cf, kf, fi, f, h4, h5⟩ := had k hk
    refine ⟨⟨(RJ6, TJ6, 1), rfl, cell, h1, ?_, h2, fun j hj => ?_⟩, hA _ (Array.getElem?_eq_some_iff.mp h1).1⟩
    · exact Option.some.inj (h3.symm.trans k3.2.1)
    · have hj0 : j = 0 := Nat.lt_one_iff.mp hj
      subst hj0
      obtain ⟨cf', kf', fi', f', g1, g2⟩ := k3.1 0 (by decide)
      cases h4.symm.trans g1
      show cell.slots[i3 0]? = _
      rw [← g2]
      exact h5
theorem Dk.kept0 {G : gG} {A : Nat → Prop} {H H1 : Heap} {x : Nat} {ws : va_W} {puts : Nat} {C : Nat → Int32 → Nat} (h : Dk G A H x ws puts (fun _ => 0) C) (hP : va_P G.1 vwCl ws H1) : Dk G A H1 x ws puts (fun _ => 0) C := by
  obtain ⟨fl, g, hp, ar, cap, f, v, e, h1, h2, h3, h4⟩ := h
  refine ⟨fl, g, hp, ar, cap, f, v, e, ⟨h1.1, h1.2.1, h1.2.2.1, fun i hi => ?_⟩, h2, hP, h4⟩
  obtain ⟨a1, a2, a3, a4, a5⟩ := h1.2.2.2 i hi
  exact ⟨a1, a2, a3, a4, fun j j1 j2 => absurd (show 1 ≤ 0 from Nat.le_trans j1 j2) (by decide)⟩
end
section
/-! THE CLAIM OUT OF ONE WALK OF THE LAW'S BODY. Your part is whole_start (and what it stands on); all else here is the same for every law, but numbers. -/
def R_law : String := "DaryArrayHeapDeskLaw"
def lw_P (b : Addr) (xs : List Int32) (args : Array Value) (s : State) : Prop := args = #[.ref b] ∧ s.IntsAt b xs ∧ xs.length ≤ 384 ∧ (Jvm.Cond.and given_1 narrow_1).before args s = true
def lw_Q (_ : Array Value) (s : State) (o : Outcome) (t : State) : Prop := o = .returned (some (.int 1)) ∧ Framed s o t [] 1200128 5501098
def lw_Z (below : List Frame) (a : Array Value) (s : State) : State → Prop := fun t => ∃ o, t.status = .running ∧ Ended t below o ∧ lw_Q a s o t
/-- the law's own end, with 1 on the stack, nothing written that was there before, its room as the claim has it -/
theorem lw_ret {p : Program} {l : Launch} {e : Env} {s : State} {m : MethodId} {below : List Frame} {meth : Method} {c : Code} {b : Nat} (hx : p.tables.exec = Jvm.exec) (hb : c.code = code) (hr : meth.sig.returnType = ret) (hlocks : meth.locks = false) {pc : Nat} {H : Heap} {ls : Array Slot} (hdg : decode code pc = .ok (.ireturn, 1)) : W p l e room_1 s m #[Value.ref b] below meth c H [] 1200128 5501098 (lw_Z below #[Value.ref b] s) (F0 m pc ls [.int 1]) := by
  intro T hT X
  obtain ⟨fs, hret, hrun, hended, hW, hframe⟩ := X.leave (v := some (.int 1)) (hlocks := hlocks) (fun h => by rw [hr] at h; cases h)
  have hmeth' : T.vm.method? m = some meth := X.method'
  refine ⟨T.setFrames fs, ?_, .returned (some (.int 1)), hrun, hended, rfl, ⟨_, rfl⟩, hW, hframe⟩
  jvm_step X.here [X.here.top, hx, hb, hdg, hmeth', hr, ret, narrow_b1]
  (try refine ⟨rfl, ?_⟩); (try refine ⟨rfl, ?_⟩)
  first | (intro acts; rw [hret _ acts rfl rfl rfl]) | rw [hret _ _ rfl rfl rfl]
  exact Steps.refl _
/-- what holds at the law's entry: the machine, the code, the tables' words (any of lw_tbl by 'hts w (by decide +kernel)'), the script of L ints xs at the cell b, what the Statement gives of the start (any of its parts by flat_of_before) -/
def lw_At (p : Program) (s : State) (m : MethodId) (meth : Method) (c : Code) (b L : Nat) (xs : Nat → Int32) : Prop :=
  p.tables.exec = Jvm.exec ∧ c.code = code ∧ meth.sig.returnType = ret ∧ c.maxLocals = 4 ∧ s.vm.findClass R_law = some m.cls ∧ (∀ w ∈ lw_tbl, w.before #[Value.ref b] s = true) ∧ va_X b L xs s s.heap ∧ b < s.heap.size ∧ meth.locks = false ∧ (Jvm.Cond.and given_1 narrow_1).before #[Value.ref b] s = true
end
section
/-! THE LAW: the desk and the model side by side -/
set_option maxRecDepth 100000
section SLD
variable {p : Program} {l : Launch} {e : Env} {R : Room} {s : State} {m : MethodId} {args : Array Value} {below : List Frame} {meth : Method} {c : Code} {H : Heap} {locs : List Loc} {cells slots : Nat} {Q : State → Prop}
variable {cc : ByteArray} {pc : Nat} {ls : Array Slot} {rest : List Value} {A : Nat → Prop} {H0 : Heap}
/-- the script is read at a place that is a natural -/
theorem sldn (hexec : p.tables.exec = Jvm.exec) (hb : c.code = cc) {b L : Nat} {xs : Nat → Int32} (hX : va_X b L xs s H0) (hbl : b < H0.size) (hbA : ¬ A b) (hS : va_S A H0 H locs) {n : Nat} (hn : n < L) (hL : L ≤ 384) (hdg : decode cc pc = .ok (.iaload, 1))
    (kk : W p l e R s m args below meth c H locs cells slots Q (F0 m (pc + 1) ls (.int (xs n) :: rest))) : W p l e R s m args below meth c H locs cells slots Q (F0 m pc ls (.int (nI n) :: .ref b :: rest)) :=
  va_sld hexec hb hX hbl hbA hS (vp_in_nI hn (by omega)) hdg (by rw [nI_clamp (by omega)]; exact kk)
end SLD
theorem two {P : Prop} {α : Type} {y1 y2 a b : Int32} {s1 s2 e f : α} (h1 : (P → y1 = a ∧ s1 = e) ∧ (¬ P → y1 = b ∧ s1 = f)) (h2 : (P → y2 = a ∧ s2 = e) ∧ (¬ P → y2 = b ∧ s2 = f)) : y1 = y2 ∧ s1 = s2 := by
  by_cases hp : P
  · obtain ⟨rfl, rfl⟩ := h1.1 hp
    obtain ⟨rfl, rfl⟩ := h2.1 hp
    exact ⟨rfl, rfl⟩
  · obtain ⟨rfl, rfl⟩ := h1.2 hp
    obtain ⟨rfl, rfl⟩ := h2.2 hp
    exact ⟨rfl, rfl⟩
theorem twoT {N : Nat → Nat} {C : Nat → Int32 → Nat} {j : Nat} {y1 y2 : Int32} {s1 s2 : (Nat → Nat) × (Nat → Int32 → Nat)} (h1 : (N j = 0 → y1 = -1 ∧ s1 = (N, C)) ∧ (N j ≠ 0 → isMin C j y1 ∧ s1 = (va_up N j (N j - 1), cSub C j y1))) (h2 : (N j = 0 → y2 = -1 ∧ s2 = (N, C)) ∧ (N j ≠ 0 → isMin C j y2 ∧ s2 = (va_up N j (N j - 1), cSub C j y2))) : y1 = y2 ∧ s1 = s2 := by
  by_cases hp : N j = 0
  · obtain ⟨rfl, rfl⟩ := h1.1 hp
    obtain ⟨rfl, rfl⟩ := h2.1 hp
    exact ⟨rfl, rfl⟩
  · obtain ⟨a1, rfl⟩ := h1.2 hp
    obtain ⟨a2, rfl⟩ := h2.2 hp
    obtain rfl := a1.uniq a2
    exact ⟨rfl, rfl⟩
theorem twoL {N : Nat → Nat} {C : Nat → Int32 → Nat} {j : Nat} {y1 y2 : Int32} (h1 : (N j = 0 → y1 = -1) ∧ (N j ≠ 0 → isMin C j y1)) (h2 : (N j = 0 → y2 = -1) ∧ (N j ≠ 0 → isMin C j y2)) : y1 = y2 := by
  by_cases hp : N j = 0
  · rw [h1.1 hp, h2.1 hp]
  · exact (h1.2 hp).uniq (h2.2 hp)
set_option maxHeartbeats 8000000 in
theorem whole_start {p : Program} {e : Env} {s : State} {m : MethodId} {below : List Frame} {meth : Method} {c : Code} (l : Launch) (hflags : l.flags = flags0) {b L : Nat} {xs : Nat → Int32} (hL : L ≤ 384) (C0 : lw_At p s m meth c b L xs) : W p l e room_1 s m #[Value.ref b] below meth c s.heap [] 0 0 (lw_Z below #[Value.ref b] s) (entryFrame m ([Value.ref b] : List Value).toArray 4) := by
  obtain ⟨hx, hb, hr, hml, hown, htb, hX, hbl, hlocks, hgv⟩ := C0
  have hts : ∀ w ∈ lw_all, w.before #[Value.ref b] s = true := fun w h => htb w (lw_all_tbl h)
  obtain ⟨G, hG⟩ := start_G htb hgv
  obtain ⟨A, hA, hA9, hG⟩ : ∃ A : Nat → Prop, (∀ q : Nat, s.heap.size ≤ q → A q) ∧ (∀ q : Nat, A q → s.heap.size ≤ q) ∧ gx G A s s.heap := ⟨fun q => s.heap.size ≤ q, fun q h => h, fun q h => h, hG⟩
  have hbA : ¬ A b := fun z => absurd hbl (Nat.not_lt.mpr (hA9 b z))
  have hK := hG.K
  have hS : va_S A s.heap s.heap [] := va_S.rf
  have hP : va_P G.1 vwCl [] s.heap := fun k q h => by cases h
  have hD : va_D A [] := ⟨fun i j x y h => (by cases h), fun i x h => (by cases h)⟩
  have hl := lv_entry ([.ref b]) (n := 4) (Nat.le_of_ble_eq_true rfl)
  rw [lg_entry_eq]
  generalize (lg_sl ([.ref b]) ++ List.replicate (4 - (lg_sl ([.ref b])).length) Slot.unset).toArray = ls at hl ⊢
  have hl : lv_has ls 4 [(0, .ref b)] := hl
  refine va_new (ci := 1) (fs := [.null, .int (nI 0)]) (C := RX0) (T := TX0) (N := 2) hx hb hts in_X0 tyX0 tyX0_ok hown (hts _ q20) (hts _ q21) (hts _ q4) hK hP hD hS hA rfl (fun j hj => by rcases (show j = 0 ∨ j = 1 by omega) with rfl | rfl <;> rfl) (Nat.le_of_ble_eq_true rfl) (Nat.le_of_ble_eq_true rfl) dL_law_0 (fun dx H140 hP hD hS => ?_)
  have hP : va_P G.1 vwCl [(dx, .inr (1, [.null, .int (nI 0)]))] H140 := hP
  have hD : va_D A [(dx, .inr (1, [.null, .int (nI 0)]))] := hD
  refine lv_dup hx hb dL_law_3 rfl ?_
  have hFc := freeL hD hS hA
  refine va_callv (va_runI (As := []) (rest := [.ref dx]) ⟨hx, hb, hml, hown, hts⟩ (m_dInit l G _ dx hP (hD.weaken (fun _ _ _ _ => trivial))) (cwI 0 hts (lw_meth q24) rfl rfl rfl (hts _ q4) (hts _ q22) (hts _ q23) rfl (by decide +kernel) ⟨Nat.le_of_ble_eq_true rfl, Nat.le_of_ble_eq_true rfl⟩) (PcG.s (hG.sub hS hFc)) rfl rfl hl.1 rfl (lv_room (Nat.le_of_ble_eq_true rfl)) dL_law_4 ⟨Nat.le_of_ble_eq_true rfl, Nat.le_of_ble_eq_true rfl⟩) hS (fun q _ h => hFc q h) hFc (fun wD t H141 locs ht hvm hw hB hz1 hk1 hS => ?_)
  try dsimp only at hB
  try dsimp only at hw
  rw [ht] at hB
  have hDk := hB.wk (hB.D.weaken (fun _ q _ h => hFc q.1 h))
  refine lv_astore_n (lv' := [(1, .ref dx), (0, .ref b)]) hx hb dL_law_7 rfl hl (by decide) rfl (fun ls hl => ?_)
  refine va_new (ci := 2) (fs := [.null, .null, .int (nI 0)]) (C := RX4) (T := TX4) (N := 3) hx hb hts in_X4 tyX4 tyX4_ok hown (hts _ q402) (hts _ q403) (hts _ q13) hK hDk.P hDk.D hS hA rfl (fun j hj => by rcases (show j = 0 ∨ j = 1 ∨ j = 2 by omega) with rfl | rfl | rfl <;> rfl) (Nat.le_of_ble_eq_true rfl) (Nat.le_of_ble_eq_true rfl) dL_law_8 (fun mo H142 hP hD hS => ?_)
  have hDk := hDk.kept0 hP.left
  have hP := swpP (a := wD) (b := [(mo, .inr (2, [.null, .null, .int (nI 0)]))]) hP
  have hD := swpD (a := wD) (b := [(mo, .inr (2, [.null, .null, .int (nI 0)]))]) hD
  refine lv_dup hx hb dL_law_11 rfl ?_
  have hFc := freeL (hD.left) hS hA
  refine va_callv (va_runI (As := []) (rest := [.ref mo]) ⟨hx, hb, hml, hown, hts⟩ (m_mInit l G _ mo hP.left (hD.left.weaken (fun _ _ _ _ => trivial))) (cwI 0 hts (lw_meth q406) rfl rfl rfl (hts _ q13) (hts _ q404) (hts _ q405) rfl (by decide +kernel) ⟨Nat.le_of_ble_eq_true rfl, Nat.le_of_ble_eq_true rfl⟩) (PcG.s (hG.sub hS hFc)) rfl rfl hl.1 rfl (lv_room (Nat.le_of_ble_eq_true rfl)) dL_law_12 ⟨Nat.le_of_ble_eq_true rfl, Nat.le_of_ble_eq_true rfl⟩) hS (fun q _ h => hFc q h) hFc (fun wM t H143 locs ht hvm hw hB hz1 hk1 hS => ?_)
  try dsimp only at hB
  try dsimp only at hw
  rw [ht] at hB
  obtain ⟨hP, hD⟩ := joinL (w1 := [(mo, .inr (2, [.null, .null, .int (nI 0)]))]) (w2 := wD) (w3 := wM) hP hD hk1 hFc hB.P hB.D
  have hMk := hB.wk hD.left
  have hDk := hDk.kept0 hP.right
  have hDD := swpD hD
  refine lv_astore_n (lv' := [(2, .ref mo), (1, .ref dx), (0, .ref b)]) hx hb dL_law_15 rfl hl (by decide) rfl (fun ls hl => ?_)
  refine lv_iconst (v := nI 0) hx hb dL_law_16 (by decide) ?_
  refine lv_istore_n (lv' := [(3, .int (nI 0)), (2, .ref mo), (1, .ref dx), (0, .ref b)]) hx hb dL_law_17 rfl hl (by decide) rfl (fun ls hl => ?_)
  have loop : ∀ (fuel k puts : Nat) (N : Nat → Nat) (C : Nat → Int32 → Nat) (wD wM : va_W) (H : Heap) (locs : List Loc) (ls : Array Slot), 65 ≤ k + fuel → k ≤ 64 → Dk G A H dx wD puts N C → Mk G A H mo wM puts N C → va_D A (wD ++ wM) → va_S A s.heap H locs → lv_has ls 4 [(3, .int (nI (6 * k))), (2, .ref mo), (1, .ref dx), (0, .ref b)] → W p l e room_1 s m #[Value.ref b] below meth c H locs (13 + 128 * k) (225 + 16512 * k) (lw_Z below #[Value.ref b] s) (F0 m 18 ls []) := by
    intro fuel
    induction fuel with
    | zero =>
      intro k puts N C wD wM H locs ls hfu hk
      exact absurd hk (by omega)
    | succ fuel ih =>
      intro k puts N C wD wM H locs ls hfu hk64 hDk hMk hDD hS hl
      refine lv_iload_n hx hb dL_law_18 rfl (lv_at hl 0 rfl) ?_
      refine lv_aload_n hx hb dL_law_19 rfl (lv_at hl 3 rfl) ?_
      refine va_slen hx hb hX hbl hbA hS dL_law_20 ?_
      refine lv_tn (nI (L)) (rfl) ?_
      refine lv_bipush (v := nI 6) hx hb dL_law_21 (by decide) ?_
      refine lv_isub hx hb dL_law_23 ?_
      refine lv_icmp_gt (tgt := 328) hx hb dL_law_24 (by decide) (fun c1 => ?_) (fun c1 => ?_)
      · refine lv_iconst (v := 1) hx hb dL_law_328 (by decide) ?_
        refine va_forget (fun q hq => hA9 _ (hS.2.2 q hq)) ?_
        refine W.widen (k := 1200128) (n := 5501098) (by omega) (by omega) ?_
        exact lw_ret hx hb hr hlocks dL_law_329
      · have h9 : 6 * k + 6 ≤ L := by
          rw [Int32.lt_iff_toInt_lt, pk_sub_toInt (by omega) (by decide), nI_toInt (by omega)] at c1
          omega
        have nxt : ∀ (puts : Nat) (N : Nat → Nat) (C : Nat → Int32 → Nat) (wD wM : va_W) (H : Heap) (locs : List Loc), Dk G A H dx wD puts N C → Mk G A H mo wM puts N C → va_D A (wD ++ wM) → va_S A s.heap H locs → W p l e room_1 s m #[Value.ref b] below meth c H locs (13 + 128 * (k + 1)) (225 + 16512 * (k + 1)) (lw_Z below #[Value.ref b] s) (F0 m 322 ls []) := by
          intro puts N C wD wM H locs hDk hMk hDD hS
          refine lv_iinc (v := nI (6 * (k + 1))) (lv' := [(3, .int (nI (6 * (k + 1)))), (2, .ref mo), (1, .ref dx), (0, .ref b)]) hx hb dL_law_322 hl (k := 0) rfl (by rw [show Int32.ofInt 6 = nI 6 from by decide]; exact (nI_add (6 * k) 6).trans (congrArg nI (by omega))) (by decide) rfl (fun ls hl => ?_)
          refine lv_goto (tgt := 18) hx hb dL_law_325 (by decide) ?_
          exact ih (k + 1) _ _ _ _ _ _ _ _ (by omega) (by omega) hDk hMk hDD hS hl
        refine lv_aload_n hx hb dL_law_27 rfl (lv_at hl 3 rfl) ?_
        refine lv_iload_n hx hb dL_law_28 rfl (lv_at hl 0 rfl) ?_
        refine sldn hx hb hX hbl hbA hS (n := 6 * k) (by omega) hL dL_law_29 ?_
        refine lv_bipush (v := nI 15) hx hb dL_law_30 (by decide) ?_
        refine lv_iand hx hb dL_law_32 ?_
        obtain ⟨tg, htg, etg⟩ := pk_andE (xs (6 * k)) 4 (m := nI 15) (by decide)
        refine lv_tn (nI (tg)) (etg) ?_
        rcases (show tg = 0 ∨ tg = 1 ∨ tg = 2 ∨ tg = 3 ∨ tg = 4 ∨ tg = 5 ∨ tg = 6 ∨ tg = 7 ∨ 8 ≤ tg by omega) with rfl | rfl | rfl | rfl | rfl | rfl | rfl | rfl | h8
        · refine lv_tableIn (tgt := 80) (off := 47) hx hb dL_law_33 (by decide +kernel) (by decide +kernel) (by decide +kernel) (by decide) ?_
          refine lv_aload_n hx hb dL_law_80 rfl (lv_at hl 2 rfl) ?_
          refine lv_aload_n hx hb dL_law_81 rfl (lv_at hl 3 rfl) ?_
          refine lv_iload_n hx hb dL_law_82 rfl (lv_at hl 0 rfl) ?_
          refine lv_iconst (v := nI 1) hx hb dL_law_83 (by decide) ?_
          refine lv_iadd hx hb dL_law_84 ?_
          refine lv_tn (nI (6 * k + 1)) (nI_add _ _) ?_
          refine sldn hx hb hX hbl hbA hS (n := 6 * k + 1) (by omega) hL dL_law_85 ?_
          refine lv_aload_n hx hb dL_law_86 rfl (lv_at hl 3 rfl) ?_
          refine lv_iload_n hx hb dL_law_87 rfl (lv_at hl 0 rfl) ?_
          refine lv_iconst (v := nI 2) hx hb dL_law_88 (by decide) ?_
          refine lv_iadd hx hb dL_law_89 ?_
          refine lv_tn (nI (6 * k + 2)) (nI_add _ _) ?_
          refine sldn hx hb hX hbl hbA hS (n := 6 * k + 2) (by omega) hL dL_law_90 ?_
          have hFc := freeL hDk.D hS hA
          refine va_calli (va_runV (As := [.int (xs (6 * k + 1)), .int (xs (6 * k + 2))]) (rest := []) ⟨hx, hb, hml, hown, hts⟩ (m_dPut l G _ dx _ puts N C (hDk.wk (hDk.D.weaken (fun _ _ _ _ => trivial))) (xs (6 * k + 1)) (xs (6 * k + 2))) (cwV 2 hts (lw_V q193 q194 q195 q4 q196) rfl rfl rfl (by decide +kernel) ⟨Nat.le_of_ble_eq_true rfl, Nat.le_of_ble_eq_true rfl⟩) (PcG.v (hDk.recv hK) (hG.sub hS hFc)) rfl rfl hl.1 rfl (lv_room (Nat.le_of_ble_eq_true rfl)) dL_law_91 ⟨by show 13 + 128 * k + 2 ≤ 1200128; omega, by show 225 + 16512 * k + 130 ≤ 5501098; omega⟩) hS (fun q _ h => hFc q h) hFc (fun yd d t H144 locs ht hvm hd hB hz1 hk1 hS => ?_)
          try dsimp only at hB
          try dsimp only at hd
          rw [ht] at hB
          obtain ⟨hP, hDD⟩ := joinL (w1 := wD) (w2 := wM) (w3 := d.1) (va_P.app hDk.P hMk.P) hDD hk1 hFc hB.P hB.D
          have hDk := hB.wk hDD.left
          have hMk := hMk.kept hP.right
          refine lv_aload_n hx hb dL_law_94 rfl (lv_at hl 1 rfl) ?_
          refine lv_aload_n hx hb dL_law_95 rfl (lv_at hl 3 rfl) ?_
          refine lv_iload_n hx hb dL_law_96 rfl (lv_at hl 0 rfl) ?_
          refine lv_iconst (v := nI 1) hx hb dL_law_97 (by decide) ?_
          refine lv_iadd hx hb dL_law_98 ?_
          refine lv_tn (nI (6 * k + 1)) (nI_add _ _) ?_
          refine sldn hx hb hX hbl hbA hS (n := 6 * k + 1) (by omega) hL dL_law_99 ?_
          refine lv_aload_n hx hb dL_law_100 rfl (lv_at hl 3 rfl) ?_
          refine lv_iload_n hx hb dL_law_101 rfl (lv_at hl 0 rfl) ?_
          refine lv_iconst (v := nI 2) hx hb dL_law_102 (by decide) ?_
          refine lv_iadd hx hb dL_law_103 ?_
          refine lv_tn (nI (6 * k + 2)) (nI_add _ _) ?_
          refine sldn hx hb hX hbl hbA hS (n := 6 * k + 2) (by omega) hL dL_law_104 ?_
          have hFc := freeL hMk.D hS hA
          refine va_calli (va_runV (As := [.int (xs (6 * k + 1)), .int (xs (6 * k + 2))]) (rest := [.int yd]) ⟨hx, hb, hml, hown, hts⟩ (m_mPut l G _ mo _ puts N C (hMk.wk (hMk.D.weaken (fun _ _ _ _ => trivial))) (xs (6 * k + 1)) (xs (6 * k + 2))) (cwV 2 hts (lw_V q419 q420 q421 q13 q422) rfl rfl rfl (by decide +kernel) ⟨Nat.le_of_ble_eq_true rfl, Nat.le_of_ble_eq_true rfl⟩) (PcG.v (hMk.recv hK) (hG.sub hS hFc)) rfl rfl hl.1 rfl (lv_room (Nat.le_of_ble_eq_true rfl)) dL_law_105 ⟨by show 13 + 128 * k + 2 + 0 ≤ 1200128; omega, by show 225 + 16512 * k + 130 + 0 ≤ 5501098; omega⟩) hS (fun q _ h => hFc q h) hFc (fun ym m t H145 locs ht hvm hm hB hz1 hk1 hS => ?_)
          try dsimp only at hB
          try dsimp only at hm
          rw [ht] at hB
          obtain ⟨hP, hDD⟩ := joinL (w1 := wM) (w3 := m.1) (va_P.app hMk.P hDk.P) (swpD hDD) hk1 hFc hB.P hB.D
          have hDk := hDk.kept (bK.of hK hMk.P hMk.nI hk1) hP.right
          have hMk := hB.wk hDD.left
          have hDD := swpD hDD
          have hy := two hd hm
          rw [hy.2] at hDk
          have hy := hy.1
          refine lv_icmp_eq (tgt := 322) hx hb dL_law_108 (by decide) (fun c2 => ?_) (fun c2 => ?_)
          · refine W.widen (k := 13 + 128 * (k + 1)) (n := 225 + 16512 * (k + 1)) (by omega) (by omega) ?_
            exact nxt _ _ _ _ _ _ _ hDk hMk hDD hS
          · exact absurd hy c2
        · refine lv_tableIn (tgt := 113) (off := 80) hx hb dL_law_33 (by decide +kernel) (by decide +kernel) (by decide +kernel) (by decide) ?_
          refine lv_aload_n hx hb dL_law_113 rfl (lv_at hl 2 rfl) ?_
          refine lv_aload_n hx hb dL_law_114 rfl (lv_at hl 3 rfl) ?_
          refine lv_iload_n hx hb dL_law_115 rfl (lv_at hl 0 rfl) ?_
          refine lv_iconst (v := nI 1) hx hb dL_law_116 (by decide) ?_
          refine lv_iadd hx hb dL_law_117 ?_
          refine lv_tn (nI (6 * k + 1)) (nI_add _ _) ?_
          refine sldn hx hb hX hbl hbA hS (n := 6 * k + 1) (by omega) hL dL_law_118 ?_
          refine lv_aload_n hx hb dL_law_119 rfl (lv_at hl 3 rfl) ?_
          refine lv_iload_n hx hb dL_law_120 rfl (lv_at hl 0 rfl) ?_
          refine lv_iconst (v := nI 2) hx hb dL_law_121 (by decide) ?_
          refine lv_iadd hx hb dL_law_122 ?_
          refine lv_tn (nI (6 * k + 2)) (nI_add _ _) ?_
          refine sldn hx hb hX hbl hbA hS (n := 6 * k + 2) (by omega) hL dL_law_123 ?_
          refine lv_aload_n hx hb dL_law_124 rfl (lv_at hl 3 rfl) ?_
          refine lv_iload_n hx hb dL_law_125 rfl (lv_at hl 0 rfl) ?_
          refine lv_iconst (v := nI 3) hx hb dL_law_126 (by decide) ?_
          refine lv_iadd hx hb dL_law_127 ?_
          refine lv_tn (nI (6 * k + 3)) (nI_add _ _) ?_
          refine sldn hx hb hX hbl hbA hS (n := 6 * k + 3) (by omega) hL dL_law_128 ?_
          refine lv_aload_n hx hb dL_law_129 rfl (lv_at hl 3 rfl) ?_
          refine lv_iload_n hx hb dL_law_130 rfl (lv_at hl 0 rfl) ?_
          refine lv_iconst (v := nI 4) hx hb dL_law_131 (by decide) ?_
          refine lv_iadd hx hb dL_law_132 ?_
          refine lv_tn (nI (6 * k + 4)) (nI_add _ _) ?_
          refine sldn hx hb hX hbl hbA hS (n := 6 * k + 4) (by omega) hL dL_law_133 ?_
          refine lv_aload_n hx hb dL_law_134 rfl (lv_at hl 3 rfl) ?_
          refine lv_iload_n hx hb dL_law_135 rfl (lv_at hl 0 rfl) ?_
          refine lv_iconst (v := nI 5) hx hb dL_law_136 (by decide) ?_
          refine lv_iadd hx hb dL_law_137 ?_
          refine lv_tn (nI (6 * k + 5)) (nI_add _ _) ?_
          refine sldn hx hb hX hbl hbA hS (n := 6 * k + 5) (by omega) hL dL_law_138 ?_
          have hFc := freeL hDk.D hS hA
          refine va_calli (va_runV (As := [.int (xs (6 * k + 1)), .int (xs (6 * k + 2)), .int (xs (6 * k + 3)), .int (xs (6 * k + 4)), .int (xs (6 * k + 5))]) (rest := []) ⟨hx, hb, hml, hown, hts⟩ (m_dFour l G _ dx _ puts N C (hDk.wk (hDk.D.weaken (fun _ _ _ _ => trivial))) (xs (6 * k + 1)) (xs (6 * k + 2)) (xs (6 * k + 3)) (xs (6 * k + 4)) (xs (6 * k + 5))) (cwV 5 hts (lw_V q293 q294 q295 q4 q296) rfl rfl rfl (by decide +kernel) ⟨Nat.le_of_ble_eq_true rfl, Nat.le_of_ble_eq_true rfl⟩) (PcG.v (hDk.recv hK) (hG.sub hS hFc)) rfl rfl hl.1 rfl (lv_room (Nat.le_of_ble_eq_true rfl)) dL_law_139 ⟨by show 13 + 128 * k + 7 ≤ 1200128; omega, by show 225 + 16512 * k + 30 ≤ 5501098; omega⟩) hS (fun q _ h => hFc q h) hFc (fun yd d t H146 locs ht hvm hd hB hz1 hk1 hS => ?_)
          try dsimp only at hB
          try dsimp only at hd
          rw [ht] at hB
          obtain ⟨hP, hDD⟩ := joinL (w1 := wD) (w2 := wM) (w3 := d.1) (va_P.app hDk.P hMk.P) hDD hk1 hFc hB.P hB.D
          have hDk := hB.wk hDD.left
          have hMk := hMk.kept hP.right
          refine lv_aload_n hx hb dL_law_142 rfl (lv_at hl 1 rfl) ?_
          refine lv_aload_n hx hb dL_law_143 rfl (lv_at hl 3 rfl) ?_
          refine lv_iload_n hx hb dL_law_144 rfl (lv_at hl 0 rfl) ?_
          refine lv_iconst (v := nI 1) hx hb dL_law_145 (by decide) ?_
          refine lv_iadd hx hb dL_law_146 ?_
          refine lv_tn (nI (6 * k + 1)) (nI_add _ _) ?_
          refine sldn hx hb hX hbl hbA hS (n := 6 * k + 1) (by omega) hL dL_law_147 ?_
          refine lv_aload_n hx hb dL_law_148 rfl (lv_at hl 3 rfl) ?_
          refine lv_iload_n hx hb dL_law_149 rfl (lv_at hl 0 rfl) ?_
          refine lv_iconst (v := nI 2) hx hb dL_law_150 (by decide) ?_
          refine lv_iadd hx hb dL_law_151 ?_
          refine lv_tn (nI (6 * k + 2)) (nI_add _ _) ?_
          refine sldn hx hb hX hbl hbA hS (n := 6 * k + 2) (by omega) hL dL_law_152 ?_
          refine lv_aload_n hx hb dL_law_153 rfl (lv_at hl 3 rfl) ?_
          refine lv_iload_n hx hb dL_law_154 rfl (lv_at hl 0 rfl) ?_
          refine lv_iconst (v := nI 3) hx hb dL_law_155 (by decide) ?_
          refine lv_iadd hx hb dL_law_156 ?_
          refine lv_tn (nI (6 * k + 3)) (nI_add _ _) ?_
          refine sldn hx hb hX hbl hbA hS (n := 6 * k + 3) (by omega) hL dL_law_157 ?_
          refine lv_aload_n hx hb dL_law_158 rfl (lv_at hl 3 rfl) ?_
          refine lv_iload_n hx hb dL_law_159 rfl (lv_at hl 0 rfl) ?_
          refine lv_iconst (v := nI 4) hx hb dL_law_160 (by decide) ?_
          refine lv_iadd hx hb dL_law_161 ?_
          refine lv_tn (nI (6 * k + 4)) (nI_add _ _) ?_
          refine sldn hx hb hX hbl hbA hS (n := 6 * k + 4) (by omega) hL dL_law_162 ?_
          refine lv_aload_n hx hb dL_law_163 rfl (lv_at hl 3 rfl) ?_
          refine lv_iload_n hx hb dL_law_164 rfl (lv_at hl 0 rfl) ?_
          refine lv_iconst (v := nI 5) hx hb dL_law_165 (by decide) ?_
          refine lv_iadd hx hb dL_law_166 ?_
          refine lv_tn (nI (6 * k + 5)) (nI_add _ _) ?_
          refine sldn hx hb hX hbl hbA hS (n := 6 * k + 5) (by omega) hL dL_law_167 ?_
          have hFc := freeL hMk.D hS hA
          refine va_calli (va_runV (As := [.int (xs (6 * k + 1)), .int (xs (6 * k + 2)), .int (xs (6 * k + 3)), .int (xs (6 * k + 4)), .int (xs (6 * k + 5))]) (rest := [.int yd]) ⟨hx, hb, hml, hown, hts⟩ (m_mFour l G _ mo _ puts N C (hMk.wk (hMk.D.weaken (fun _ _ _ _ => trivial))) (xs (6 * k + 1)) (xs (6 * k + 2)) (xs (6 * k + 3)) (xs (6 * k + 4)) (xs (6 * k + 5))) (cwV 5 hts (lw_V q424 q425 q426 q13 q427) rfl rfl rfl (by decide +kernel) ⟨Nat.le_of_ble_eq_true rfl, Nat.le_of_ble_eq_true rfl⟩) (PcG.v (hMk.recv hK) (hG.sub hS hFc)) rfl rfl hl.1 rfl (lv_room (Nat.le_of_ble_eq_true rfl)) dL_law_168 ⟨by show 13 + 128 * k + 7 + 0 ≤ 1200128; omega, by show 225 + 16512 * k + 30 + 0 ≤ 5501098; omega⟩) hS (fun q _ h => hFc q h) hFc (fun ym m t H147 locs ht hvm hm hB hz1 hk1 hS => ?_)
          try dsimp only at hB
          try dsimp only at hm
          rw [ht] at hB
          obtain ⟨hP, hDD⟩ := joinL (w1 := wM) (w3 := m.1) (va_P.app hMk.P hDk.P) (swpD hDD) hk1 hFc hB.P hB.D
          have hDk := hDk.kept (bK.of hK hMk.P hMk.nI hk1) hP.right
          have hMk := hB.wk hDD.left
          have hDD := swpD hDD
          have hy := two hd hm
          rw [hy.2] at hDk
          have hy := hy.1
          refine lv_icmp_eq (tgt := 322) hx hb dL_law_171 (by decide) (fun c2 => ?_) (fun c2 => ?_)
          · refine W.widen (k := 13 + 128 * (k + 1)) (n := 225 + 16512 * (k + 1)) (by omega) (by omega) ?_
            exact nxt _ _ _ _ _ _ _ hDk hMk hDD hS
          · exact absurd hy c2
        · refine lv_tableIn (tgt := 176) (off := 143) hx hb dL_law_33 (by decide +kernel) (by decide +kernel) (by decide +kernel) (by decide) ?_
          refine lv_aload_n hx hb dL_law_176 rfl (lv_at hl 2 rfl) ?_
          refine lv_aload_n hx hb dL_law_177 rfl (lv_at hl 3 rfl) ?_
          refine lv_iload_n hx hb dL_law_178 rfl (lv_at hl 0 rfl) ?_
          refine lv_iconst (v := nI 1) hx hb dL_law_179 (by decide) ?_
          refine lv_iadd hx hb dL_law_180 ?_
          refine lv_tn (nI (6 * k + 1)) (nI_add _ _) ?_
          refine sldn hx hb hX hbl hbA hS (n := 6 * k + 1) (by omega) hL dL_law_181 ?_
          refine vp_callSi (va_Run.run (va_runV (As := [.int (xs (6 * k + 1))]) (rest := []) ⟨hx, hb, hml, hown, hts⟩ (m_dLeast l G _ dx _ puts N C (hDk.wk (hDk.D.weaken (fun _ _ _ _ => trivial))) (xs (6 * k + 1))) (cwV 1 hts (lw_V q319 q320 q321 q4 q322) rfl rfl rfl (by decide +kernel) ⟨Nat.le_of_ble_eq_true rfl, Nat.le_of_ble_eq_true rfl⟩) (PcG.v (hDk.recv hK) (hG.ro hS)) rfl rfl hl.1 rfl (lv_room (Nat.le_of_ble_eq_true rfl)) dL_law_182 ⟨by show 13 + 128 * k + 0 ≤ 1200128; omega, by show 225 + 16512 * k + 0 ≤ 5501098; omega⟩)) (fun yd hd => ?_)
          refine lv_aload_n hx hb dL_law_185 rfl (lv_at hl 1 rfl) ?_
          refine lv_aload_n hx hb dL_law_186 rfl (lv_at hl 3 rfl) ?_
          refine lv_iload_n hx hb dL_law_187 rfl (lv_at hl 0 rfl) ?_
          refine lv_iconst (v := nI 1) hx hb dL_law_188 (by decide) ?_
          refine lv_iadd hx hb dL_law_189 ?_
          refine lv_tn (nI (6 * k + 1)) (nI_add _ _) ?_
          refine sldn hx hb hX hbl hbA hS (n := 6 * k + 1) (by omega) hL dL_law_190 ?_
          refine vp_callSi (va_Run.run (va_runV (As := [.int (xs (6 * k + 1))]) (rest := [.int yd]) ⟨hx, hb, hml, hown, hts⟩ (m_mLeast l G _ mo _ puts N C (hMk.wk (hMk.D.weaken (fun _ _ _ _ => trivial))) (xs (6 * k + 1))) (cwV 1 hts (lw_V q433 q434 q435 q13 q436) rfl rfl rfl (by decide +kernel) ⟨Nat.le_of_ble_eq_true rfl, Nat.le_of_ble_eq_true rfl⟩) (PcG.v (hMk.recv hK) (hG.ro hS)) rfl rfl hl.1 rfl (lv_room (Nat.le_of_ble_eq_true rfl)) dL_law_191 ⟨by show 13 + 128 * k + 0 ≤ 1200128; omega, by show 225 + 16512 * k + 0 ≤ 5501098; omega⟩)) (fun ym hm => ?_)
          have hy := twoL hd hm
          refine lv_icmp_eq (tgt := 322) hx hb dL_law_194 (by decide) (fun c2 => ?_) (fun c2 => ?_)
          · refine W.widen (k := 13 + 128 * (k + 1)) (n := 225 + 16512 * (k + 1)) (by omega) (by omega) ?_
            exact nxt _ _ _ _ _ _ _ hDk hMk hDD hS
          · exact absurd hy c2
        · refine lv_tableIn (tgt := 199) (off := 166) hx hb dL_law_33 (by decide +kernel) (by decide +kernel) (by decide +kernel) (by decide) ?_
          refine lv_aload_n hx hb dL_law_199 rfl (lv_at hl 2 rfl) ?_
          refine lv_aload_n hx hb dL_law_200 rfl (lv_at hl 3 rfl) ?_
          refine lv_iload_n hx hb dL_law_201 rfl (lv_at hl 0 rfl) ?_
          refine lv_iconst (v := nI 1) hx hb dL_law_202 (by decide) ?_
          refine lv_iadd hx hb dL_law_203 ?_
          refine lv_tn (nI (6 * k + 1)) (nI_add _ _) ?_
          refine sldn hx hb hX hbl hbA hS (n := 6 * k + 1) (by omega) hL dL_law_204 ?_
          have hFc := freeL hDk.D hS hA
          refine va_calli (va_runV (As := [.int (xs (6 * k + 1))]) (rest := []) ⟨hx, hb, hml, hown, hts⟩ (m_dTake l G _ dx _ puts N C (hDk.wk (hDk.D.weaken (fun _ _ _ _ => trivial))) (xs (6 * k + 1))) (cwV 1 hts (lw_V q356 q357 q358 q4 q359) rfl rfl rfl (by decide +kernel) ⟨Nat.le_of_ble_eq_true rfl, Nat.le_of_ble_eq_true rfl⟩) (PcG.v (hDk.recv hK) (hG.sub hS hFc)) rfl rfl hl.1 rfl (lv_room (Nat.le_of_ble_eq_true rfl)) dL_law_205 ⟨by show 13 + 128 * k + 1 ≤ 1200128; omega, by show 225 + 16512 * k + 129 ≤ 5501098; omega⟩) hS (fun q _ h => hFc q h) hFc (fun yd d t H148 locs ht hvm hd hB hz1 hk1 hS => ?_)
          try dsimp only at hB
          try dsimp only at hd
          rw [ht] at hB
          obtain ⟨hP, hDD⟩ := joinL (w1 := wD) (w2 := wM) (w3 := d.1) (va_P.app hDk.P hMk.P) hDD hk1 hFc hB.P hB.D
          have hDk := hB.wk hDD.left
          have hMk := hMk.kept hP.right
          refine lv_aload_n hx hb dL_law_208 rfl (lv_at hl 1 rfl) ?_
          refine lv_aload_n hx hb dL_law_209 rfl (lv_at hl 3 rfl) ?_
          refine lv_iload_n hx hb dL_law_210 rfl (lv_at hl 0 rfl) ?_
          refine lv_iconst (v := nI 1) hx hb dL_law_211 (by decide) ?_
          refine lv_iadd hx hb dL_law_212 ?_
          refine lv_tn (nI (6 * k + 1)) (nI_add _ _) ?_
          refine sldn hx hb hX hbl hbA hS (n := 6 * k + 1) (by omega) hL dL_law_213 ?_
          have hFc := freeL hMk.D hS hA
          refine va_calli (va_runV (As := [.int (xs (6 * k + 1))]) (rest := [.int yd]) ⟨hx, hb, hml, hown, hts⟩ (m_mTake l G _ mo _ puts N C (hMk.wk (hMk.D.weaken (fun _ _ _ _ => trivial))) (xs (6 * k + 1))) (cwV 1 hts (lw_V q441 q442 q443 q13 q444) rfl rfl rfl (by decide +kernel) ⟨Nat.le_of_ble_eq_true rfl, Nat.le_of_ble_eq_true rfl⟩) (PcG.v (hMk.recv hK) (hG.sub hS hFc)) rfl rfl hl.1 rfl (lv_room (Nat.le_of_ble_eq_true rfl)) dL_law_214 ⟨by show 13 + 128 * k + 1 + 0 ≤ 1200128; omega, by show 225 + 16512 * k + 129 + 0 ≤ 5501098; omega⟩) hS (fun q _ h => hFc q h) hFc (fun ym m t H149 locs ht hvm hm hB hz1 hk1 hS => ?_)
          try dsimp only at hB
          try dsimp only at hm
          rw [ht] at hB
          obtain ⟨hP, hDD⟩ := joinL (w1 := wM) (w3 := m.1) (va_P.app hMk.P hDk.P) (swpD hDD) hk1 hFc hB.P hB.D
          have hDk := hDk.kept (bK.of hK hMk.P hMk.nI hk1) hP.right
          have hMk := hB.wk hDD.left
          have hDD := swpD hDD
          have hy := twoT hd hm
          rw [hy.2] at hDk
          have hy := hy.1
          refine lv_icmp_eq (tgt := 322) hx hb dL_law_217 (by decide) (fun c2 => ?_) (fun c2 => ?_)
          · refine W.widen (k := 13 + 128 * (k + 1)) (n := 225 + 16512 * (k + 1)) (by omega) (by omega) ?_
            exact nxt _ _ _ _ _ _ _ hDk hMk hDD hS
          · exact absurd hy c2
        · refine lv_tableIn (tgt := 222) (off := 189) hx hb dL_law_33 (by decide +kernel) (by decide +kernel) (by decide +kernel) (by decide) ?_
          refine lv_aload_n hx hb dL_law_222 rfl (lv_at hl 2 rfl) ?_
          refine lv_aload_n hx hb dL_law_223 rfl (lv_at hl 3 rfl) ?_
          refine lv_iload_n hx hb dL_law_224 rfl (lv_at hl 0 rfl) ?_
          refine lv_iconst (v := nI 1) hx hb dL_law_225 (by decide) ?_
          refine lv_iadd hx hb dL_law_226 ?_
          refine lv_tn (nI (6 * k + 1)) (nI_add _ _) ?_
          refine sldn hx hb hX hbl hbA hS (n := 6 * k + 1) (by omega) hL dL_law_227 ?_
          refine vp_callSi (va_Run.run (va_runV (As := [.int (xs (6 * k + 1))]) (rest := []) ⟨hx, hb, hml, hown, hts⟩ (m_dSize l G _ dx _ puts N C (hDk.wk (hDk.D.weaken (fun _ _ _ _ => trivial))) (xs (6 * k + 1))) (cwV 1 hts (lw_V q374 q375 q376 q4 q377) rfl rfl rfl (by decide +kernel) ⟨Nat.le_of_ble_eq_true rfl, Nat.le_of_ble_eq_true rfl⟩) (PcG.v (hDk.recv hK) (hG.ro hS)) rfl rfl hl.1 rfl (lv_room (Nat.le_of_ble_eq_true rfl)) dL_law_228 ⟨by show 13 + 128 * k + 0 ≤ 1200128; omega, by show 225 + 16512 * k + 0 ≤ 5501098; omega⟩)) (fun yd hd => ?_)
          refine lv_aload_n hx hb dL_law_231 rfl (lv_at hl 1 rfl) ?_
          refine lv_aload_n hx hb dL_law_232 rfl (lv_at hl 3 rfl) ?_
          refine lv_iload_n hx hb dL_law_233 rfl (lv_at hl 0 rfl) ?_
          refine lv_iconst (v := nI 1) hx hb dL_law_234 (by decide) ?_
          refine lv_iadd hx hb dL_law_235 ?_
          refine lv_tn (nI (6 * k + 1)) (nI_add _ _) ?_
          refine sldn hx hb hX hbl hbA hS (n := 6 * k + 1) (by omega) hL dL_law_236 ?_
          refine vp_callSi (va_Run.run (va_runV (As := [.int (xs (6 * k + 1))]) (rest := [.int yd]) ⟨hx, hb, hml, hown, hts⟩ (m_mSize l G _ mo _ puts N C (hMk.wk (hMk.D.weaken (fun _ _ _ _ => trivial))) (xs (6 * k + 1))) (cwV 1 hts (lw_V q445 q446 q447 q13 q448) rfl rfl rfl (by decide +kernel) ⟨Nat.le_of_ble_eq_true rfl, Nat.le_of_ble_eq_true rfl⟩) (PcG.v (hMk.recv hK) (hG.ro hS)) rfl rfl hl.1 rfl (lv_room (Nat.le_of_ble_eq_true rfl)) dL_law_237 ⟨by show 13 + 128 * k + 0 ≤ 1200128; omega, by show 225 + 16512 * k + 0 ≤ 5501098; omega⟩)) (fun ym hm => ?_)
          have hy : yd = ym := hd.trans hm.symm
          refine lv_icmp_eq (tgt := 322) hx hb dL_law_240 (by decide) (fun c2 => ?_) (fun c2 => ?_)
          · refine W.widen (k := 13 + 128 * (k + 1)) (n := 225 + 16512 * (k + 1)) (by omega) (by omega) ?_
            exact nxt _ _ _ _ _ _ _ hDk hMk hDD hS
          · exact absurd hy c2
        · refine lv_tableIn (tgt := 245) (off := 212) hx hb dL_law_33 (by decide +kernel) (by decide +kernel) (by decide +kernel) (by decide) ?_
          refine lv_aload_n hx hb dL_law_245 rfl (lv_at hl 2 rfl) ?_
          refine lv_aload_n hx hb dL_law_246 rfl (lv_at hl 3 rfl) ?_
          refine lv_iload_n hx hb dL_law_247 rfl (lv_at hl 0 rfl) ?_
          refine lv_iconst (v := nI 1) hx hb dL_law_248 (by decide) ?_
          refine lv_iadd hx hb dL_law_249 ?_
          refine lv_tn (nI (6 * k + 1)) (nI_add _ _) ?_
          refine sldn hx hb hX hbl hbA hS (n := 6 * k + 1) (by omega) hL dL_law_250 ?_
          refine vp_callSi (va_Run.run (va_runV (As := [.int (xs (6 * k + 1))]) (rest := []) ⟨hx, hb, hml, hown, hts⟩ (m_dEmpty l G _ dx _ puts N C (hDk.wk (hDk.D.weaken (fun _ _ _ _ => trivial))) (xs (6 * k + 1))) (cwV 1 hts (lw_V q384 q385 q386 q4 q387) rfl rfl rfl (by decide +kernel) ⟨Nat.le_of_ble_eq_true rfl, Nat.le_of_ble_eq_true rfl⟩) (PcG.v (hDk.recv hK) (hG.ro hS)) rfl rfl hl.1 rfl (lv_room (Nat.le_of_ble_eq_true rfl)) dL_law_251 ⟨by show 13 + 128 * k + 0 ≤ 1200128; omega, by show 225 + 16512 * k + 0 ≤ 5501098; omega⟩)) (fun yd hd => ?_)
          refine lv_aload_n hx hb dL_law_254 rfl (lv_at hl 1 rfl) ?_
          refine lv_aload_n hx hb dL_law_255 rfl (lv_at hl 3 rfl) ?_
          refine lv_iload_n hx hb dL_law_256 rfl (lv_at hl 0 rfl) ?_
          refine lv_iconst (v := nI 1) hx hb dL_law_257 (by decide) ?_
          refine lv_iadd hx hb dL_law_258 ?_
          refine lv_tn (nI (6 * k + 1)) (nI_add _ _) ?_
          refine sldn hx hb hX hbl hbA hS (n := 6 * k + 1) (by omega) hL dL_law_259 ?_
          refine vp_callSi (va_Run.run (va_runV (As := [.int (xs (6 * k + 1))]) (rest := [.int yd]) ⟨hx, hb, hml, hown, hts⟩ (m_mEmpty l G _ mo _ puts N C (hMk.wk (hMk.D.weaken (fun _ _ _ _ => trivial))) (xs (6 * k + 1))) (cwV 1 hts (lw_V q449 q450 q451 q13 q452) rfl rfl rfl (by decide +kernel) ⟨Nat.le_of_ble_eq_true rfl, Nat.le_of_ble_eq_true rfl⟩) (PcG.v (hMk.recv hK) (hG.ro hS)) rfl rfl hl.1 rfl (lv_room (Nat.le_of_ble_eq_true rfl)) dL_law_260 ⟨by show 13 + 128 * k + 0 ≤ 1200128; omega, by show 225 + 16512 * k + 0 ≤ 5501098; omega⟩)) (fun ym hm => ?_)
          have hy : yd = ym := hd.trans hm.symm
          refine lv_icmp_eq (tgt := 322) hx hb dL_law_263 (by decide) (fun c2 => ?_) (fun c2 => ?_)
          · refine W.widen (k := 13 + 128 * (k + 1)) (n := 225 + 16512 * (k + 1)) (by omega) (by omega) ?_
            exact nxt _ _ _ _ _ _ _ hDk hMk hDD hS
          · exact absurd hy c2
        · refine lv_tableIn (tgt := 268) (off := 235) hx hb dL_law_33 (by decide +kernel) (by decide +kernel) (by decide +kernel) (by decide) ?_
          refine lv_aload_n hx hb dL_law_268 rfl (lv_at hl 2 rfl) ?_
          refine lv_aload_n hx hb dL_law_269 rfl (lv_at hl 3 rfl) ?_
          refine lv_iload_n hx hb dL_law_270 rfl (lv_at hl 0 rfl) ?_
          refine lv_iconst (v := nI 1) hx hb dL_law_271 (by decide) ?_
          refine lv_iadd hx hb dL_law_272 ?_
          refine lv_tn (nI (6 * k + 1)) (nI_add _ _) ?_
          refine sldn hx hb hX hbl hbA hS (n := 6 * k + 1) (by omega) hL dL_law_273 ?_
          have hFc := freeL hDk.D hS hA
          refine va_callv (va_runV (As := [.int (xs (6 * k + 1))]) (rest := []) ⟨hx, hb, hml, hown, hts⟩ (m_dClear l G _ dx _ puts N C (hDk.wk (hDk.D.weaken (fun _ _ _ _ => trivial))) (xs (6 * k + 1))) (cwV 1 hts (lw_V q388 q389 q390 q4 q391) rfl rfl rfl (by decide +kernel) ⟨Nat.le_of_ble_eq_true rfl, Nat.le_of_ble_eq_true rfl⟩) (PcG.v (hDk.recv hK) (hG.sub hS hFc)) rfl rfl hl.1 rfl (lv_room (Nat.le_of_ble_eq_true rfl)) dL_law_274 ⟨by show 13 + 128 * k + 0 ≤ 1200128; omega, by show 225 + 16512 * k + 0 ≤ 5501098; omega⟩) hS (fun q _ h => hFc q h) hFc (fun d t H150 locs ht hvm hd hB hz1 hk1 hS => ?_)
          try dsimp only at hB
          try dsimp only at hd
          rw [ht] at hB
          obtain ⟨hP, hDD⟩ := joinL (w1 := wD) (w2 := wM) (w3 := d) (va_P.app hDk.P hMk.P) hDD hk1 hFc hB.P hB.D
          have hDk := hB.wk hDD.left
          have hMk := hMk.kept hP.right
          refine lv_aload_n hx hb dL_law_277 rfl (lv_at hl 1 rfl) ?_
          refine lv_aload_n hx hb dL_law_278 rfl (lv_at hl 3 rfl) ?_
          refine lv_iload_n hx hb dL_law_279 rfl (lv_at hl 0 rfl) ?_
          refine lv_iconst (v := nI 1) hx hb dL_law_280 (by decide) ?_
          refine lv_iadd hx hb dL_law_281 ?_
          refine lv_tn (nI (6 * k + 1)) (nI_add _ _) ?_
          refine sldn hx hb hX hbl hbA hS (n := 6 * k + 1) (by omega) hL dL_law_282 ?_
          have hFc := freeL hMk.D hS hA
          refine va_callv (va_runV (As := [.int (xs (6 * k + 1))]) (rest := []) ⟨hx, hb, hml, hown, hts⟩ (m_mClear l G _ mo _ puts N C (hMk.wk (hMk.D.weaken (fun _ _ _ _ => trivial))) (xs (6 * k + 1))) (cwV 1 hts (lw_V q454 q429 q430 q13 q431) rfl rfl rfl (by decide +kernel) ⟨Nat.le_of_ble_eq_true rfl, Nat.le_of_ble_eq_true rfl⟩) (PcG.v (hMk.recv hK) (hG.sub hS hFc)) rfl rfl hl.1 rfl (lv_room (Nat.le_of_ble_eq_true rfl)) dL_law_283 ⟨by show 13 + 128 * k + 0 + 0 ≤ 1200128; omega, by show 225 + 16512 * k + 0 + 0 ≤ 5501098; omega⟩) hS (fun q _ h => hFc q h) hFc (fun m t H151 locs ht hvm hm hB hz1 hk1 hS => ?_)
          try dsimp only at hB
          try dsimp only at hm
          rw [ht] at hB
          obtain ⟨hP, hDD⟩ := joinL (w1 := wM) (w3 := m) (va_P.app hMk.P hDk.P) (swpD hDD) hk1 hFc hB.P hB.D
          have hDk := hDk.kept (bK.of hK hMk.P hMk.nI hk1) hP.right
          have hMk := hB.wk hDD.left
          have hDD := swpD hDD
          refine lv_goto (tgt := 322) hx hb dL_law_286 (by decide) ?_
          refine W.widen (k := 13 + 128 * (k + 1)) (n := 225 + 16512 * (k + 1)) (by omega) (by omega) ?_
          exact nxt _ _ _ _ _ _ _ hDk hMk hDD hS
        · refine lv_tableIn (tgt := 289) (off := 256) hx hb dL_law_33 (by decide +kernel) (by decide +kernel) (by decide +kernel) (by decide) ?_
          refine lv_aload_n hx hb dL_law_289 rfl (lv_at hl 2 rfl) ?_
          refine lv_aload_n hx hb dL_law_290 rfl (lv_at hl 3 rfl) ?_
          refine lv_iload_n hx hb dL_law_291 rfl (lv_at hl 0 rfl) ?_
          refine lv_iconst (v := nI 1) hx hb dL_law_292 (by decide) ?_
          refine lv_iadd hx hb dL_law_293 ?_
          refine lv_tn (nI (6 * k + 1)) (nI_add _ _) ?_
          refine sldn hx hb hX hbl hbA hS (n := 6 * k + 1) (by omega) hL dL_law_294 ?_
          refine lv_aload_n hx hb dL_law_295 rfl (lv_at hl 3 rfl) ?_
          refine lv_iload_n hx hb dL_law_296 rfl (lv_at hl 0 rfl) ?_
          refine lv_iconst (v := nI 2) hx hb dL_law_297 (by decide) ?_
          refine lv_iadd hx hb dL_law_298 ?_
          refine lv_tn (nI (6 * k + 2)) (nI_add _ _) ?_
          refine sldn hx hb hX hbl hbA hS (n := 6 * k + 2) (by omega) hL dL_law_299 ?_
          have hFc := freeL hDk.D hS hA
          refine va_calli (va_runV (As := [.int (xs (6 * k + 1)), .int (xs (6 * k + 2))]) (rest := []) ⟨hx, hb, hml, hown, hts⟩ (m_dPour l G _ dx _ puts N C (hDk.wk (hDk.D.weaken (fun _ _ _ _ => trivial))) (xs (6 * k + 1)) (xs (6 * k + 2))) (cwV 2 hts (lw_V q398 q399 q400 q4 q401) rfl rfl rfl (by decide +kernel) ⟨Nat.le_of_ble_eq_true rfl, Nat.le_of_ble_eq_true rfl⟩) (PcG.v (hDk.recv hK) (hG.sub hS hFc)) rfl rfl hl.1 rfl (lv_room (Nat.le_of_ble_eq_true rfl)) dL_law_300 ⟨by show 13 + 128 * k + 128 ≤ 1200128; omega, by show 225 + 16512 * k + 16512 ≤ 5501098; omega⟩) hS (fun q _ h => hFc q h) hFc (fun yd d t H152 locs ht hvm hd hB hz1 hk1 hS => ?_)
          try dsimp only at hB
          try dsimp only at hd
          rw [ht] at hB
          obtain ⟨hP, hDD⟩ := joinL (w1 := wD) (w2 := wM) (w3 := d.1) (va_P.app hDk.P hMk.P) hDD hk1 hFc hB.P hB.D
          have hDk := hB.wk hDD.left
          have hMk := hMk.kept hP.right
          refine lv_aload_n hx hb dL_law_303 rfl (lv_at hl 1 rfl) ?_
          refine lv_aload_n hx hb dL_law_304 rfl (lv_at hl 3 rfl) ?_
          refine lv_iload_n hx hb dL_law_305 rfl (lv_at hl 0 rfl) ?_
          refine lv_iconst (v := nI 1) hx hb dL_law_306 (by decide) ?_
          refine lv_iadd hx hb dL_law_307 ?_
          refine lv_tn (nI (6 * k + 1)) (nI_add _ _) ?_
          refine sldn hx hb hX hbl hbA hS (n := 6 * k + 1) (by omega) hL dL_law_308 ?_
          refine lv_aload_n hx hb dL_law_309 rfl (lv_at hl 3 rfl) ?_
          refine lv_iload_n hx hb dL_law_310 rfl (lv_at hl 0 rfl) ?_
          refine lv_iconst (v := nI 2) hx hb dL_law_311 (by decide) ?_
          refine lv_iadd hx hb dL_law_312 ?_
          refine lv_tn (nI (6 * k + 2)) (nI_add _ _) ?_
          refine sldn hx hb hX hbl hbA hS (n := 6 * k + 2) (by omega) hL dL_law_313 ?_
          have hFc := freeL hMk.D hS hA
          refine va_calli (va_runV (As := [.int (xs (6 * k + 1)), .int (xs (6 * k + 2))]) (rest := [.int yd]) ⟨hx, hb, hml, hown, hts⟩ (m_mPour l G _ mo _ puts N C (hMk.wk (hMk.D.weaken (fun _ _ _ _ => trivial))) (xs (6 * k + 1)) (xs (6 * k + 2))) (cwV 2 hts (lw_V q455 q456 q457 q13 q458) rfl rfl rfl (by decide +kernel) ⟨Nat.le_of_ble_eq_true rfl, Nat.le_of_ble_eq_true rfl⟩) (PcG.v (hMk.recv hK) (hG.sub hS hFc)) rfl rfl hl.1 rfl (lv_room (Nat.le_of_ble_eq_true rfl)) dL_law_314 ⟨by show 13 + 128 * k + 128 + 0 ≤ 1200128; omega, by show 225 + 16512 * k + 16512 + 0 ≤ 5501098; omega⟩) hS (fun q _ h => hFc q h) hFc (fun ym m t H153 locs ht hvm hm hB hz1 hk1 hS => ?_)
          try dsimp only at hB
          try dsimp only at hm
          rw [ht] at hB
          obtain ⟨hP, hDD⟩ := joinL (w1 := wM) (w3 := m.1) (va_P.app hMk.P hDk.P) (swpD hDD) hk1 hFc hB.P hB.D
          have hDk := hDk.kept (bK.of hK hMk.P hMk.nI hk1) hP.right
          have hMk := hB.wk hDD.left
          have hDD := swpD hDD
          have hy := two hd hm
          rw [hy.2] at hDk
          have hy := hy.1
          refine lv_icmp_eq (tgt := 322) hx hb dL_law_317 (by decide) (fun c2 => ?_) (fun c2 => ?_)
          · refine W.widen (k := 13 + 128 * (k + 1)) (n := 225 + 16512 * (k + 1)) (by omega) (by omega) ?_
            exact nxt _ _ _ _ _ _ _ hDk hMk hDD hS
          · exact absurd hy c2
        · refine lv_tableOut (tgt := 322) hx hb dL_law_33 (Or.inr (by rw [nI_toInt (by omega)]; omega)) (by decide) ?_
          refine W.widen (k := 13 + 128 * (k + 1)) (n := 225 + 16512 * (k + 1)) (by omega) (by omega) ?_
          exact nxt _ _ _ _ _ _ _ hDk hMk hDD hS
  refine W.widen (k := 13 + 128 * 0) (n := 225 + 16512 * 0) (by decide) (by decide) ?_
  exact loop 65 0 0 _ _ wD wM _ _ _ (by decide) (by decide) hDk hMk hDD hS hl
end
section
set_option maxHeartbeats 4000000 in
theorem lw_walk (l : Launch) (hflags : l.flags = flags0) (b : Addr) (xs : List Int32) : MetFree l x (headSpec (Jvm.Cond.code x code maxLocals ret :: tables_1) room_1) (lw_P b xs) (fun _ _ _ _ _ => True) lw_Q := by
  refine MetFree.of_bodyS (code := code) (maxLocals := maxLocals) (ret := ret) (by decide) ?_ ?_
  · intro args s m h hn
    obtain ⟨meth, c, h1, h2, h3, h4, h5, h6, -, -⟩ := Cond.code_spec hn (atoms_spec (ws := Jvm.Cond.code x code maxLocals ret :: tables_1) h _ List.mem_cons_self)
    exact ⟨meth, c, h1, h2, h3, h4, h5, h6⟩
  · intro p e s m args below meth c s₁ B hml0 hP _
    obtain ⟨rfl, hx, hbd, hgv⟩ := hP
    obtain ⟨scr, harrAt, hlist, hof, hsmall⟩ := hx
    obtain ⟨hcb, hkn, -, -⟩ := State.arrayAt?_spec harrAt
    have hown : s.vm.findClass R_law = some m.cls := findClass_of_methodNamed B.named
    have hts0 : ∀ c ∈ (Jvm.Cond.code x code maxLocals ret :: tables_1), c.before #[Value.ref b] s = true := atoms_spec (ws := Jvm.Cond.code x code maxLocals ret :: tables_1) B.pre
    have hts : ∀ w ∈ lw_tbl, w.before #[Value.ref b] s = true := k2_hts_sels lw_privs (fun w hw => hts0 w (List.mem_cons_of_mem _ hw)) lw_privs_ok
    have hml : c.maxLocals = 4 := B.maxLocals_eq (hts0 _ List.mem_cons_self)
    have X₀ : Stand p l e room_1 s m #[Value.ref b] below meth c s₁ [] 0 0 := Stand.of_body B
    have hh0 : s₁.heap = s.heap := by rw [B.state]; rfl
    have hsz : scr.slots.size = xs.length := by rw [← Array.length_toList, hlist, List.length_map]
    have hval : ∀ j : Nat, j < xs.length → scr.slots[j]? = some (.int (xs.getD j 0)) := fun j hj => by
      rw [← Array.getElem?_toList, hlist]
      simp [hj]
    have hbl : b < s.heap.size := (Array.getElem?_eq_some_iff.mp hcb).1
    have hX : va_X b xs.length (fun j => xs.getD j 0) s s.heap := ⟨scr, hcb, hof, hkn, hsz, hval⟩
    have K : W p l e room_1 s m #[Value.ref b] below meth c s₁.heap [] 0 0 (lw_Z below #[Value.ref b] s) (entryFrame m ([Value.ref b] : List Value).toArray 4) := by
      rw [hh0]
      exact whole_start l hflags hbd ⟨B.exec, B.bytes, B.returns, hml, hown, hts, hX, hbl, B.notSynchronized, hgv⟩
    obtain ⟨t, a1, o, b1, b2, b3⟩ := K s₁ rfl X₀
    exact ⟨t, o, a1, b1, b2, b3⟩
theorem lw_pre_spec {args : Array Value} {s : State} (h : (Jvm.Cond.and given_1 narrow_1).before args s = true) (hr : rest_1_c.before args s = true) : ∃ (b : Addr) (xs : List Int32), lw_P b xs args s := by
  have hs := flat_of_before _ h
  have hq := flat_of_before _ hr
  have hc : (Cond.count 1).before args s = true := hs _ (by decide +kernel)
  have harr : (Cond.arrayOf (.arg 0) .int).before args s = true := hs _ (by decide +kernel)
  have hle : (Cond.le (.length (.arg 0)) (.int 384)).before args s = true := hs _ (by decide +kernel)
  have hlen : (Cond.isInt (.length (.arg 0))).before args s = true := hq _ (by decide +kernel)
  have hall : (Cond.all (.arg 0) (.isInt (.elem (.arg 0) (.index 0)))).before args s = true := hq _ (by decide +kernel)
  obtain ⟨b, xs, hb, hx⟩ := State.ints_of_pre rfl harr hlen hall
  have hsm : xs.length < 2 ^ 31 := hx.choose_spec.2.2.2
  have hev : (Term.length (.arg 0)).eval args s none [] s = some (.int xs.length.toInt32) := hx.length_eval hb
  have hv := Cond.le_ints hev (show (Term.int 384).eval args s none [] s = some (.int 384) from rfl)
  have hd : xs.length.toInt32 ≤ 384 := by
    simpa [Cond.before, Cond.holds, hv] using hle
  have hN : xs.length ≤ 384 := (Int32.ofNat_le_ofNat hsm (by decide)).mp (show Int32.ofNat xs.length ≤ Int32.ofNat 384 from hd)
  exact ⟨b, xs, Cond.one_arg hc (show args[0]? = some (.ref b) from hb), hx, hN, h⟩
theorem lw_comes (l : Launch) (hflags : l.flags = flags0) : Comes l x (Jvm.Cond.code x code maxLocals ret :: tables_1) room_1 (fun tb e args s => Calls_1 tb e args s ∧ rest_1 tb e args s ∧ Pre_1 tb e args s)
    (fun _ _ args s o t => lw_Q args s o t) := by
  intro p e ha hc hk s m args below hf hfit hheap happ hpre
  obtain ⟨b, xs, hP⟩ := lw_pre_spec hpre.2.2 hpre.2.1
  obtain ⟨k, o, h1, h2, h3, hQ⟩ := lw_walk l hflags b xs p e ha hc hk s m args below hf ((Spec.applies_iff_loose hf).mp happ).1 hP trivial
  exact ⟨k, o, h1, h2, h3, hQ⟩
theorem lw_frame {s t : State} {o : Outcome} {args : Array Value} (h : Framed s o t [] 1200128 5501098) :
    Framed s o t (fieldLocs frame_1_writes args s ++ arrayLocs frame_1_arrays args s ++ staticLocs frame_1_statics s) 1200128 5501098 := h
theorem lw_limb (L : Cond) (hL : ∀ (args : Array Value) (s t : State), L.after args s (.returned (some (.int 1))) t = true) :
    ArmFor flags0 classFile x code maxLocals ret World_1 tables_1 room_1 Calls_1 rest_1 Pre_1
      (fun tb e a s o t => postC L tb e a s o t ∧ Framed s o t (fieldLocs frame_1_writes a s ++ arrayLocs frame_1_arrays a s ++ staticLocs frame_1_statics s) 1200128 5501098) := by
  intro l hflags _ _ p e ha hc hk s m args below hf hfit hheap happ hpre
  obtain ⟨k, o, h1, h2, h3, rfl, hF⟩ := lw_comes l hflags p e ha hc hk s m args below hf hfit hheap happ hpre
  exact ⟨k, _, h1, h2, h3, hL args s _, lw_frame hF⟩
theorem i_vc : Claimed_1_1 ∧ Claimed_1_2 := ⟨lw_limb limb_1_1 (fun args s t => by simp [limb_1_1, Cond.after, Cond.holds, Cond.value]), lw_limb limb_1_2 (fun args s t => Cond.after_iff.mpr (by
  first | (rw [show limb_1_2 = Cond.eq .result (.int 1) from rfl, Cond.eq_ints (x := 1) (y := 1) rfl rfl]; simp; done) | (simp [limb_1_2, Cond.value, Term.eval]; done)))⟩
end
